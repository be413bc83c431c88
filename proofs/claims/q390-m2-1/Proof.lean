import JvmDerived
import JvmDerived.Pilot.@@N@@Statement
import JvmDerived.Pilot.@@N@@Code
set_option linter.unusedVariables false
set_option linter.unusedSimpArgs false
namespace Jvm.RoadKit
open Sem ClassFile Op Lib Jvm.Stand Jvm.Free Jvm.LawKit
section OwnKit
variable {p : Program} {l : Launch} {e : Env} {R : Room} {s : State} {m : MethodId} {args : Array Value} {below : List Frame} {meth : Method} {c : Code} {T : State} {locs : List Loc} {cells slots : Nat}
/-- a run that stands in S comes to an end of the invocation, of which Q is said -/
def own_G (tb : Tables) (e : Env) (below : List Frame) (s : State) (Q : Option Value → Heap → List Loc → Prop) (k n : Nat) (S : State) : Prop :=
  ∃ s₂ o, Steps tb e below S s₂ ∧ s₂.status = .running ∧ Ended s₂ below o ∧ ∃ v L, o = .returned v ∧ Q v s₂.heap L ∧ FrameEnd s o s₂ L k n
variable {tb : Tables} {Q : Option Value → Heap → List Loc → Prop} {k n : Nat}
theorem own_go {A B : State} (st : ∀ t, Steps tb e below A t → Steps tb e below B t) (h : own_G tb e below s Q k n A) : own_G tb e below s Q k n B := by
  obtain ⟨s₂, o, h1, h2⟩ := h
  exact ⟨s₂, o, st _ h1, h2⟩
theorem own_ret (X : Stand p l e R s m args below meth c T locs cells slots) {v : Option Value} (hv : meth.sig.returnType = none → v = none) (hlk : meth.locks = false) (hQ : Q v T.heap locs) (hk : cells ≤ k) (hn : slots ≤ n) {S : State}
    (st : ∀ fs, (∀ (f : JFrame) (acts : List Action), f.method = m → f.locked = none → f.entered = [] → (doReturn e (T.setTop f) acts v).1 = T.setFrames fs) → Steps p.tables e below S (T.setFrames fs)) : own_G p.tables e below s Q k n S := by
  obtain ⟨fs, hr, hrun, hended, hW, hsame⟩ := X.leave hv hlk
  exact ⟨_, _, st fs hr, hrun, hended, _, _, rfl, hQ, ⟨_, rfl⟩, hW, hsame.mono hk hn⟩
variable {pc : Nat} {Ls : Array Slot} {rest : List Value}
theorem own_retN (X : Stand p l e R s m args below meth c T locs cells slots) (hx : p.tables.exec = Jvm.exec) (hlk : meth.locks = false) {t : FieldType} {z z' : Int32} (hret : meth.sig.returnType = some t) (ht : t = .boolean ∨ t = .byte ∨ t = .char ∨ t = .short) (hd : decode c.code pc = .ok (.ireturn, 1)) (hz : nar t z = z') (hQ : Q (some (.int z')) T.heap locs) (hk : cells ≤ k) (hn : slots ≤ n) :
    own_G p.tables e below s Q k n (T.setTop (mkF m pc Ls (.int z :: rest))) := by
  subst hz
  exact own_ret X (fun h => by rw [hret] at h; cases h) hlk hQ hk hn fun fs hr => retN X hx hret ht hd hr
theorem own_retI (X : Stand p l e R s m args below meth c T locs cells slots) (hx : p.tables.exec = Jvm.exec) (hlk : meth.locks = false) {z : Int32} (hret : meth.sig.returnType = some .int) (hd : decode c.code pc = .ok (.ireturn, 1)) (hQ : Q (some (.int z)) T.heap locs) (hk : cells ≤ k) (hn : slots ≤ n) :
    own_G p.tables e below s Q k n (T.setTop (mkF m pc Ls (.int z :: rest))) :=
  own_ret X (fun h => by rw [hret] at h; cases h) hlk hQ hk hn fun fs hr => retOut X hx hret rfl (Or.inl ⟨rfl, Or.inl rfl, _, rfl⟩) hd hr
theorem own_retJ (X : Stand p l e R s m args below meth c T locs cells slots) (hx : p.tables.exec = Jvm.exec) (hlk : meth.locks = false) {z : Int64} (hret : meth.sig.returnType = some .long) (hd : decode c.code pc = .ok (.lreturn, 1)) (hQ : Q (some (.long z)) T.heap locs) (hk : cells ≤ k) (hn : slots ≤ n) :
    own_G p.tables e below s Q k n (T.setTop (mkF m pc Ls (.long z :: rest))) :=
  own_ret X (fun h => by rw [hret] at h; cases h) hlk hQ hk hn fun fs hr => retOut X hx hret rfl (Or.inr (Or.inl ⟨rfl, rfl, _, rfl⟩)) hd hr
theorem own_retA (X : Stand p l e R s m args below meth c T locs cells slots) (hx : p.tables.exec = Jvm.exec) (hlk : meth.locks = false) {t : FieldType} {w : Value} (hret : meth.sig.returnType = some t) (ht : t.isReference = true) (hv : w.isRef = true) (hd : decode c.code pc = .ok (.areturn, 1)) (hQ : Q (some w) T.heap locs) (hk : cells ≤ k) (hn : slots ≤ n) :
    own_G p.tables e below s Q k n (T.setTop (mkF m pc Ls (w :: rest))) :=
  own_ret X (fun h => by rw [hret] at h; cases h) hlk hQ hk hn fun fs hr => retOut X hx hret (by rcases ref_cases hv with rfl | ⟨_, rfl⟩ <;> cases t <;> first | rfl | cases ht) (Or.inr (Or.inr (Or.inr (Or.inr ⟨rfl, ht, hv⟩)))) hd hr
theorem own_cat {v : Value} (h : v.isRef = true) : v.category = 1 := by rcases ref_cases h with rfl | ⟨_, rfl⟩ <;> rfl
theorem own_retV (X : Stand p l e R s m args below meth c T locs cells slots) (hx : p.tables.exec = Jvm.exec) (hlk : meth.locks = false) (hret : meth.sig.returnType = none) (hd : decode c.code pc = .ok (.return_, 1)) (hQ : Q none T.heap locs) (hk : cells ≤ k) (hn : slots ≤ n) :
    own_G p.tables e below s Q k n (T.setTop (mkF m pc Ls [])) :=
  own_ret X (fun _ => rfl) hlk hQ hk hn fun fs hr => X.returnOut hx hret hd hr
end OwnKit
section OwnD
variable {p : Program} {l : Launch} {e : Env} {R : Room} {s : State} {m : MethodId} {args : Array Value} {below : List Frame} {meth : Method} {c : Code} {T : State} {locs : List Loc} {cells slots : Nat} {Q : Option Value → Heap → List Loc → Prop} {k n pc : Nat} {Ls : Array Slot} {rest : List Value}
theorem own_retD (X : Stand p l e R s m args below meth c T locs cells slots) (hx : p.tables.exec = Jvm.exec) (hlk : meth.locks = false) {z : UInt64} (hret : meth.sig.returnType = some .double) (hd : decode c.code pc = .ok (.dreturn, 1)) (hQ : Q (some (.double z)) T.heap locs) (hk : cells ≤ k) (hn : slots ≤ n) :
    own_G p.tables e below s Q k n (T.setTop (mkF m pc Ls (.double z :: rest))) :=
  own_ret X (fun h => by rw [hret] at h; cases h) hlk hQ hk hn fun fs hr => retOut X hx hret rfl (Or.inr (Or.inr (Or.inl ⟨rfl, rfl, _, rfl⟩))) hd hr
end OwnD
end Jvm.RoadKit
namespace Jvm.Pilot.@@N@@
open Jvm Jvm.ClassFile Sem Op Lib Jvm.Free Jvm.Stand Jvm.LawKit Jvm.RoadKit Bundle Jvm.Pilot.@@N@@.Jvm.D
section OwnEighths
open Jvm.FP.Core
/-- the datum times eight -/
def own_up : Datum → Datum
  | .fin s c q => .fin s c (q + 3)
  | .inf s => .inf s
  | .nan => .nan
/-- the double a is i / 8 -/
def own_E (i : Int) (a : UInt64) : Prop := Whole i (own_up (val64 a))
theorem own_units (c : Nat) (q m : Int) : inUnits c (q + 3) (m + 3) = inUnits c q m := by
  unfold inUnits
  rw [show q + 3 - (m + 3) = q - m by omega]
theorem own_up_sum (x y : Datum) : exactSum (own_up x) (own_up y) = own_up (exactSum x y) := by
  cases x with
  | nan => cases y <;> rfl
  | inf s =>
    cases y with
    | nan => rfl
    | inf t => simp only [own_up, exactSum]; split <;> rfl
    | fin => rfl
  | fin s c q =>
    cases y with
    | nan => rfl
    | inf => rfl
    | fin t d r =>
      simp only [own_up, exactSum, sumUnits]
      rw [show min (q + 3) (r + 3) = min q r + 3 by omega, own_units, own_units]
theorem own_up_negate (x : Datum) : negate (own_up x) = own_up (negate x) := by cases x <;> rfl
theorem own_up_order (x y : Datum) : order (own_up x) (own_up y) = order x y := by
  cases x with
  | nan => cases y <;> rfl
  | inf s => cases y <;> rfl
  | fin s c q =>
    cases y with
    | nan => rfl
    | inf => rfl
    | fin t d r =>
      simp only [own_up, order]
      rw [show min (q + 3) (r + 3) = min q r + 3 by omega, own_units, own_units]
theorem own_pow3 (k : Nat) : 2 ^ (k + 3) = 2 ^ k * 8 := by rw [Nat.pow_add]
/-- times eight, and back -/
theorem own_times {m : Int} {d : Datum} (h : Whole m d) : Whole (8 * m) (own_up d) := by
  cases d with
  | nan => exact h.elim
  | inf => exact h.elim
  | fin s c q =>
    have h1 : signed s (c * 2 ^ q.toNat) = m * ((2 ^ (-q).toNat : Nat) : Int) := h
    show signed s (c * 2 ^ (q + 3).toNat) = 8 * m * ((2 ^ (-(q + 3)).toNat : Nat) : Int)
    rw [signed_mul] at h1 ⊢
    by_cases h0 : 0 ≤ q
    · rw [show (q + 3).toNat = q.toNat + 3 by omega, show (-(q + 3)).toNat = 0 by omega, own_pow3]
      rw [show (-q).toNat = 0 by omega] at h1
      generalize 2 ^ q.toNat = P at *
      simp only [Nat.pow_zero, Int.natCast_mul] at h1 ⊢
      have : signed s c * ((P : Int) * ((8 : Nat) : Int)) = (signed s c * (P : Int)) * 8 := by rw [Int.mul_assoc]; rfl
      rw [this, h1]; omega
    · by_cases h3 : q ≤ -3
      · rw [show (q + 3).toNat = 0 by omega]
        rw [show q.toNat = 0 by omega, show (-q).toNat = (-(q + 3)).toNat + 3 by omega, own_pow3] at h1
        generalize 2 ^ (-(q + 3)).toNat = P at *
        simp only [Nat.pow_zero, Int.natCast_mul] at h1 ⊢
        have : m * ((P : Int) * ((8 : Nat) : Int)) = 8 * m * (P : Int) := by rw [← Int.mul_assoc, Int.mul_comm (m * P) _, ← Int.mul_assoc]; rfl
        rw [← this]; exact h1
      · rcases (show q = -1 ∨ q = -2 by omega) with rfl | rfl
        · simp at h1 ⊢; omega
        · simp at h1 ⊢; omega
theorem own_back {m : Int} {s : Bool} {c : Nat} {q : Int} (h : Whole (8 * m) (.fin s c (q + 3))) : Whole m (.fin s c q) := by
  have h1 : signed s (c * 2 ^ (q + 3).toNat) = 8 * m * ((2 ^ (-(q + 3)).toNat : Nat) : Int) := h
  show signed s (c * 2 ^ q.toNat) = m * ((2 ^ (-q).toNat : Nat) : Int)
  rw [signed_mul] at h1 ⊢
  by_cases h0 : 0 ≤ q
  · rw [show (q + 3).toNat = q.toNat + 3 by omega, show (-(q + 3)).toNat = 0 by omega, own_pow3] at h1
    rw [show (-q).toNat = 0 by omega]
    generalize 2 ^ q.toNat = P at *
    simp only [Nat.pow_zero, Int.natCast_mul] at h1 ⊢
    have : signed s c * ((P : Int) * ((8 : Nat) : Int)) = (signed s c * (P : Int)) * 8 := by rw [Int.mul_assoc]; rfl
    rw [this] at h1; omega
  · by_cases h3 : q ≤ -3
    · rw [show (q + 3).toNat = 0 by omega] at h1
      rw [show q.toNat = 0 by omega, show (-q).toNat = (-(q + 3)).toNat + 3 by omega, own_pow3]
      generalize 2 ^ (-(q + 3)).toNat = P at *
      simp only [Nat.pow_zero, Int.natCast_mul] at h1 ⊢
      have : m * ((P : Int) * ((8 : Nat) : Int)) = 8 * m * (P : Int) := by rw [← Int.mul_assoc, Int.mul_comm (m * P) _, ← Int.mul_assoc]; rfl
      rw [this]; exact h1
    · rcases (show q = -1 ∨ q = -2 by omega) with rfl | rfl
      · simp at h1 ⊢; omega
      · simp at h1 ⊢; omega
theorem own_sign {i : Int} {s : Bool} (h : i ≠ 0 → s = decide (i < 0)) : signed s i.natAbs = i := by
  by_cases hi : i = 0
  · rw [hi]; exact signed_zero s
  · rw [h hi]
    unfold signed
    by_cases h : i < 0 <;> simp [h] <;> omega
/-- eighths of up to 53 digits round to themselves -/
theorem own_round8 {i : Int} {s : Bool} (hi : i.natAbs < 2 ^ 53) (hs : i ≠ 0 → s = decide (i < 0)) : Whole i (own_up (round b64 (.fin s i.natAbs (-3)))) := by
  obtain ⟨c', q', e2, e3⟩ := round_exact good_b64 s (c := i.natAbs) (q := -3) hi (by decide) (by decide)
  have hf := round_fits good_b64 (.fin s i.natAbs (-3))
  rw [e2] at hf ⊢
  have hq : (-1074 : Int) ≤ q' := hf.2.1
  have e3 : c' * 2 ^ (q' - (-1074)).toNat = i.natAbs * 2 ^ 1071 := e3
  show signed s (c' * 2 ^ (q' + 3).toNat) = i * ((2 ^ (-(q' + 3)).toNat : Nat) : Int)
  have key : c' * 2 ^ (q' + 3).toNat = i.natAbs * 2 ^ (-(q' + 3)).toNat := by
    by_cases h0 : 0 ≤ q' + 3
    · rw [show (-(q' + 3)).toNat = 0 by omega]
      rw [show (q' - (-1074)).toNat = (q' + 3).toNat + 1071 by omega, Nat.pow_add, ← Nat.mul_assoc] at e3
      rw [Nat.pow_zero, Nat.mul_one]
      exact Nat.eq_of_mul_eq_mul_right (Nat.two_pow_pos 1071) e3
    · rw [show (q' + 3).toNat = 0 by omega, Nat.pow_zero, Nat.mul_one]
      have e4 : 1071 = (-(q' + 3)).toNat + (q' - (-1074)).toNat := by omega
      have e5 : i.natAbs * 2 ^ 1071 = i.natAbs * 2 ^ (-(q' + 3)).toNat * 2 ^ (q' - (-1074)).toNat := by
        rw [Nat.mul_assoc, ← Nat.pow_add, ← e4]
      rw [e5] at e3
      exact Nat.eq_of_mul_eq_mul_right (Nat.two_pow_pos _) e3
  rw [key, signed_mul, own_sign hs]
theorem own_round {i : Int} (hi : i.natAbs < 2 ^ 53) {d : Datum} (h : Whole i (own_up d)) : Whole i (own_up (round b64 d)) := by
  cases d with
  | nan => exact h.elim
  | inf => exact h.elim
  | fin s c q =>
    have h1 := whole_natAbs (s := s) (c := c) (q := q + 3) h
    have e : round b64 (.fin s c q) = round b64 (.fin s i.natAbs (-3)) := by
      refine roundRatio_congr (by decide) (by decide) ?_
      rw [show (q - (-3)).toNat = (q + 3).toNat by omega, show (-3 - q).toNat = (-(q + 3)).toNat by omega]
      simpa using h1
    rw [e]
    exact own_round8 hi fun hn => whole_sign (s := s) (c := c) (q := q + 3) h hn
theorem own_add {i j : Int} {a b : UInt64} (ha : own_E i a) (hb : own_E j b) (h : (i + j).natAbs < 2 ^ 53) : own_E (i + j) (Jvm.FP.dadd a b) := by
  show Whole _ (own_up (val64 (dadd a b)))
  rw [val64_dadd]
  refine own_round h ?_
  rw [← own_up_sum]
  exact whole_sum ha hb
theorem own_sub {i j : Int} {a b : UInt64} (ha : own_E i a) (hb : own_E j b) (h : (i - j).natAbs < 2 ^ 53) : own_E (i - j) (Jvm.FP.dsub a b) := by
  show Whole _ (own_up (val64 (dsub a b)))
  rw [val64_dsub]
  refine own_round h ?_
  rw [← own_up_sum, ← own_up_negate]
  exact whole_sum ha (whole_negate hb)
theorem own_mul {i j m : Int} {a b : UInt64} (ha : own_E i a) (hb : own_E j b) (hm : i * j = 8 * m) (h : m.natAbs < 2 ^ 53) : own_E m (Jvm.FP.dmul a b) := by
  show Whole _ (own_up (val64 (dmul a b)))
  rw [val64_dmul]
  refine own_round h ?_
  have hp := whole_product ha hb
  rw [hm] at hp
  revert hp
  unfold own_E at ha hb
  generalize val64 a = x at *
  generalize val64 b = y at *
  cases x with
  | nan => exact ha.elim
  | inf => exact ha.elim
  | fin s c q =>
  cases y with
  | nan => exact hb.elim
  | inf => exact hb.elim
  | fin t d r =>
    intro hp
    have hp : Whole (8 * m) (.fin (s != t) (c * d) (q + 3 + (r + 3))) := hp
    rw [show q + 3 + (r + 3) = (q + r + 3) + 3 by omega] at hp
    exact own_back hp
theorem own_k {i : Int} {s : Bool} {c : Nat} {q : Int} {k : Nat} (h : Whole i (.fin s c q)) (hk : -(k : Int) ≤ q) : c * 2 ^ (q + k).toNat = i.natAbs * 2 ^ k := by
  have h1 := congrArg Int.natAbs (whole_units h hk)
  rw [Int.natAbs_mul, Int.natAbs_mul, natAbs_signed, Int.natAbs_natCast, Int.natAbs_natCast] at h1
  unfold inUnits at h1
  rw [show (q - -(k : Int)).toNat = (q + k).toNat by omega, show (-(k : Int)).toNat = 0 by omega, show (- -(k : Int)).toNat = k by omega] at h1
  simpa using h1
theorem own_div {i j m : Int} {a b : UInt64} (ha : own_E i a) (hb : own_E j b) (hj : j ≠ 0) (hm : 8 * i = m * j) (h : m.natAbs < 2 ^ 53) : own_E m (Jvm.FP.ddiv a b) := by
  show Whole _ (own_up (val64 (ddiv a b)))
  rw [val64_ddiv]
  unfold own_E at ha hb
  generalize val64 a = x at *
  generalize val64 b = y at *
  cases x with
  | nan => exact ha.elim
  | inf => exact ha.elim
  | fin s c q =>
  cases y with
  | nan => exact hb.elim
  | inf => exact hb.elim
  | fin t d r =>
    have ha : Whole i (.fin s c (q + 3)) := ha
    have hb : Whole j (.fin t d (r + 3)) := hb
    have hd : d ≠ 0 := fun e => hj ((whole_zero hb).mp e)
    have hn : 8 * i.natAbs = m.natAbs * j.natAbs := by
      have := congrArg Int.natAbs hm
      simpa [Int.natAbs_mul] using this
    have e : quotient b64 (.fin s c q) (.fin t d r) = round b64 (.fin (s != t) m.natAbs (-3)) := by
      show (if d = 0 then _ else roundRatio b64 (s != t) c d (q - r)) = roundRatio b64 (s != t) m.natAbs 1 (-3)
      rw [if_neg hd]
      refine roundRatio_congr (by omega) (by decide) ?_
      obtain ⟨k, k1, k2⟩ : ∃ k : Nat, -(k : Int) ≤ q ∧ -(k : Int) ≤ r := ⟨q.natAbs + r.natAbs, by omega, by omega⟩
      have h1 := own_k ha (k := k) (by omega)
      have h2 := own_k hb (k := k) (by omega)
      rw [Nat.mul_one]
      by_cases hN : 0 ≤ q - r + 3
      · rw [show (-3 - (q - r)).toNat = 0 by omega, Nat.pow_zero, Nat.mul_one]
        refine Nat.eq_of_mul_eq_mul_right (Nat.two_pow_pos (r + 3 + k).toNat) ?_
        rw [Nat.mul_assoc c, ← Nat.pow_add, show (q - r - -3).toNat + (r + 3 + k).toNat = (q + 3 + k).toNat + 3 by omega, own_pow3, ← Nat.mul_assoc, h1, Nat.mul_assoc m.natAbs, h2]
        calc i.natAbs * 2 ^ k * 8 = 8 * i.natAbs * 2 ^ k := by rw [Nat.mul_comm _ 8, ← Nat.mul_assoc]
          _ = m.natAbs * (j.natAbs * 2 ^ k) := by rw [hn, Nat.mul_assoc]
      · rw [show (q - r - -3).toNat = 0 by omega, Nat.pow_zero, Nat.mul_one]
        refine Nat.eq_of_mul_eq_mul_right (Nat.mul_pos (Nat.two_pow_pos (q + 3 + k).toNat) (by decide : 0 < 8)) ?_
        rw [← Nat.mul_assoc, h1]
        have e1 : m.natAbs * d * 2 ^ (-3 - (q - r)).toNat * (2 ^ (q + 3 + k).toNat * 8) = m.natAbs * (d * 2 ^ (r + 3 + k).toNat) := by
          rw [show (r + 3 + (k : Int)).toNat = (-3 - (q - r)).toNat + ((q + 3 + k).toNat + 3) by omega, Nat.pow_add 2 (-3 - (q - r)).toNat, own_pow3]
          ac_rfl
        rw [e1, h2]
        calc i.natAbs * 2 ^ k * 8 = 8 * i.natAbs * 2 ^ k := by rw [Nat.mul_comm _ 8, ← Nat.mul_assoc]
          _ = m.natAbs * (j.natAbs * 2 ^ k) := by rw [hn, Nat.mul_assoc]
    rw [e]
    refine own_round8 h fun hm0 => ?_
    have hi0 : i ≠ 0 := fun e => by
      rw [e, Int.mul_zero] at hm
      rcases Int.mul_eq_zero.mp hm.symm with q | q
      · exact hm0 q
      · exact hj q
    rw [whole_sign ha hi0, whole_sign hb hj]
    rcases Int.lt_or_gt_of_ne hj with q | q <;> rcases Int.lt_or_gt_of_ne hm0 with p | p
    · have := Int.mul_pos_of_neg_of_neg p q
      simp [show ¬ i < 0 by omega, q, p]
    · have := Int.mul_neg_of_pos_of_neg p q
      simp [show i < 0 by omega, q, show ¬ m < 0 by omega]
    · have := Int.mul_neg_of_neg_of_pos p q
      simp [show i < 0 by omega, show ¬ j < 0 by omega, p]
    · have := Int.mul_pos p q
      simp [show ¬ i < 0 by omega, show ¬ j < 0 by omega, show ¬ m < 0 by omega]
theorem own_cmp {i j : Int} {a b : UInt64} (ha : own_E i a) (hb : own_E j b) : Jvm.FP.dcmp a b = some (compare i j) := by
  show order (val64 a) (val64 b) = _
  rw [← own_up_order]
  exact order_whole ha hb
theorem own_num {i : Int} {a : UInt64} (ha : own_E i a) : Jvm.Free.Fl.NoNaN64 a := (Jvm.Free.Fl.dcmp_some (own_cmp ha ha)).1
theorem own_l2d {n : Int64} (h : n.toInt.natAbs ≤ 2 ^ 53) : own_E (8 * n.toInt) (Jvm.FP.l2d n) := own_times (l2d_int h)
theorem own_i2d (n : Int32) : own_E (8 * n.toInt) (Jvm.FP.i2d n) := own_times (i2d_int n)
/-- what a comparison of doubles leaves -/
def own_c (i j : Int) : Int32 := if i < j then -1 else if i = j then 0 else 1
end OwnEighths
theorem own_cmpv {i j : Int} {a b : UInt64} {o : CmpOp} (ha : own_E i a) (hb : own_E j b) : cmpValue (Jvm.FP.dcmp a b) o = own_c i j := by
  rw [own_cmp ha hb]
  unfold own_c
  by_cases h1 : i < j
  · rw [if_pos h1, Jvm.FP.Core.compare_lt_iff i j |>.mpr h1]; cases o <;> rfl
  · rw [if_neg h1]
    by_cases h2 : i = j
    · rw [if_pos h2, Jvm.FP.Core.compare_eq_iff i j |>.mpr h2]; cases o <;> rfl
    · rw [if_neg h2, Jvm.FP.Core.compare_gt_iff i j |>.mpr (by omega)]; cases o <;> rfl
theorem own_c_le {i j : Int} (h : i ≤ j) : ¬ (0 : Int32) < own_c i j := by
  unfold own_c
  split
  · decide
  · split
    · decide
    · omega
theorem own_c_gt {i j : Int} (h : j < i) : (0 : Int32) < own_c i j := by
  unfold own_c
  rw [if_neg (by omega), if_neg (by omega)]; decide
theorem own_c_lt {i j : Int} (h : i < j) : own_c i j < (0 : Int32) := by
  unfold own_c
  rw [if_pos h]; decide
theorem own_c_ge {i j : Int} (h : j ≤ i) : ¬ own_c i j < (0 : Int32) := by
  unfold own_c
  rw [if_neg (by omega)]
  split <;> decide
theorem own_c_eq {i j : Int} (h : i = j) : own_c i j = (0 : Int32) := by
  unfold own_c
  rw [if_neg (by omega), if_pos h]
theorem own_d0 : own_E 0 Jvm.FP.dconst0 := by
  have h := own_i2d (0 : Int32)
  have e : Jvm.FP.i2d (0 : Int32) = Jvm.FP.dconst0 := by decide +kernel
  rw [e] at h
  exact h
theorem own_d1 : own_E 8 Jvm.FP.dconst1 := by
  have h := own_i2d (1 : Int32)
  have e : Jvm.FP.i2d (1 : Int32) = Jvm.FP.dconst1 := by decide +kernel
  rw [e] at h
  exact h
theorem own_2 : own_E 16 (4611686018427387904 : UInt64) := by
  have h := own_i2d (2 : Int32)
  have e : Jvm.FP.i2d (2 : Int32) = (4611686018427387904 : UInt64) := by decide +kernel
  rw [e] at h
  exact h
theorem own_4 : own_E 32 (4616189618054758400 : UInt64) := by
  have h := own_i2d (4 : Int32)
  have e : Jvm.FP.i2d (4 : Int32) = (4616189618054758400 : UInt64) := by decide +kernel
  rw [e] at h
  exact h
theorem own_8 : own_E 64 (4620693217682128896 : UInt64) := by
  have h := own_i2d (8 : Int32)
  have e : Jvm.FP.i2d (8 : Int32) = (4620693217682128896 : UInt64) := by decide +kernel
  rw [e] at h
  exact h
theorem own_lE {n : Int64} {v : Int} (h : n.toInt = v) (hb : v.natAbs ≤ 2 ^ 53) : own_E (8 * v) (Jvm.FP.l2d n) := by subst h; exact own_l2d hb
theorem own_iE {n : Int32} {v : Int} (h : n.toInt = v) : own_E (8 * v) (Jvm.FP.i2d n) := by subst h; exact own_i2d n
theorem own_w (x : Int32) : x.toInt64.toInt = x.toInt := by simp
theorem own_add64 {a b : Int64} {v : Int} (h : a.toInt + b.toInt = v) (h1 : -4611686018427387904 ≤ v) (h2 : v ≤ 4611686018427387904) : (a + b).toInt = v := by
  rw [Jvm.Free.XT.add64 (by rw [h]; exact ⟨by omega, by omega⟩), h]
theorem own_sub64 {a b : Int64} {v : Int} (h : a.toInt - b.toInt = v) (h1 : -4611686018427387904 ≤ v) (h2 : v ≤ 4611686018427387904) : (a - b).toInt = v := by
  rw [Jvm.Free.XT.sub64 (by rw [h]; exact ⟨by omega, by omega⟩), h]
theorem own_add32 {a b : Int32} {v : Int} (h : a.toInt + b.toInt = v) (h1 : -1000 ≤ v) (h2 : v ≤ 1000) : (a + b).toInt = v := by
  rw [Jvm.Free.XT.add32 (by rw [h]; exact ⟨by omega, by omega⟩), h]
theorem own_oct (x : Int32) : 0 ≤ (x &&& (7 : Int32)).toInt ∧ (x &&& (7 : Int32)).toInt ≤ 7 := by
  have h2 : (x &&& (7 : Int32)).toBitVec.toNat ≤ 7 := by
    rw [Int32.toBitVec_and, BitVec.toNat_and]
    exact Nat.and_le_right
  have h3 : (x &&& (7 : Int32)).toInt = ((x &&& (7 : Int32)).toBitVec.toNat : Int) := by
    show (x &&& (7 : Int32)).toBitVec.toInt = _
    rw [BitVec.toInt_eq_toNat_of_lt (by omega)]
  omega
theorem own_g (x : Int32) : 1 ≤ ((x &&& (7 : Int32)) + (1 : Int32)).toInt ∧ ((x &&& (7 : Int32)) + (1 : Int32)).toInt ≤ 8 := by
  have h := own_oct x
  have e : (1 : Int32).toInt = 1 := rfl
  have := own_add32 (a := x &&& (7 : Int32)) (b := 1) (v := (x &&& (7 : Int32)).toInt + 1) (by rw [e]) (by omega) (by omega)
  omega
theorem own_k5 (x : Int32) : 0 ≤ ((x &&& (2147483647 : Int32)) % (5 : Int32)).toInt ∧ ((x &&& (2147483647 : Int32)) % (5 : Int32)).toInt ≤ 4 := by
  have h : ¬ ((x &&& (2147483647 : Int32)) < 0) := fun h => absurd ((Jvm.Free.XT.and_neg32 _ _).mp h).2 (by decide)
  rw [Int32.lt_iff_toInt_lt] at h
  have z : (0 : Int32).toInt = 0 := rfl
  have t : (5 : Int32).toInt = 5 := rfl
  have e : ((x &&& (2147483647 : Int32)) % (5 : Int32)).toInt = (x &&& (2147483647 : Int32)).toInt % 5 := by
    rw [Int32.toInt_mod, t, Int.tmod_eq_emod_of_nonneg (by omega)]
  omega
theorem own_n3 (x : Int32) : ((x &&& (65535 : Int32)) % (3 : Int32)) + (1 : Int32) = 1 ∨ ((x &&& (65535 : Int32)) % (3 : Int32)) + (1 : Int32) = 2 ∨ ((x &&& (65535 : Int32)) % (3 : Int32)) + (1 : Int32) = 3 := by
  have h : ¬ ((x &&& (65535 : Int32)) < 0) := fun h => absurd ((Jvm.Free.XT.and_neg32 _ _).mp h).2 (by decide)
  rw [Int32.lt_iff_toInt_lt] at h
  have z : (0 : Int32).toInt = 0 := rfl
  have t : (3 : Int32).toInt = 3 := rfl
  have o : (1 : Int32).toInt = 1 := rfl
  have e : ((x &&& (65535 : Int32)) % (3 : Int32)).toInt = (x &&& (65535 : Int32)).toInt % 3 := by
    rw [Int32.toInt_mod, t, Int.tmod_eq_emod_of_nonneg (by omega)]
  have s := own_add32 (a := (x &&& (65535 : Int32)) % (3 : Int32)) (b := 1) (v := ((x &&& (65535 : Int32)) % (3 : Int32)).toInt + 1) (by rw [o]) (by omega) (by omega)
  generalize ((x &&& (65535 : Int32)) % (3 : Int32)) + (1 : Int32) = r at *
  have g : ∀ k : Int32, r.toInt = k.toInt → r = k := fun k q => Int32.toInt_inj.mp q
  rcases (show r.toInt = 1 ∨ r.toInt = 2 ∨ r.toInt = 3 by omega) with q | q | q
  · exact Or.inl (g 1 q)
  · exact Or.inr (Or.inl (g 2 q))
  · exact Or.inr (Or.inr (g 3 q))
theorem own_prod (d g : Int) {u v : Int} (hu : u = 2 * d) (hv : v = 4 * g) : u * v = 8 * (d * g) := by
  subst hu hv
  have : (2 : Int) * d * (4 * g) = 2 * 4 * (d * g) := by ac_rfl
  rw [this]; rfl
theorem own_prod8 (d g : Int) {u v : Int} (hu : u = d) (hv : v = 8 * g) : u * v = 8 * (d * g) := by
  subst hu hv
  ac_rfl
theorem own_quo (d g : Int) {v : Int} (hv : v = 8 * g) : 8 * (d * g) = d * v := by
  subst hv
  ac_rfl
theorem own_bnd {d g : Int} (h1 : -8 ≤ d) (h2 : d ≤ 8) (h3 : 0 ≤ g) (h4 : g ≤ 8) : (d * g).natAbs < 2 ^ 53 := by
  rw [Int.natAbs_mul]
  have := Nat.mul_le_mul (show d.natAbs ≤ 8 by omega) (show g.natAbs ≤ 8 by omega)
  omega

theorem di_0 : decode prog_17_method_1_code 0 = .ok (.aload_n 0, 1) := by decide +kernel
theorem di_1 : decode prog_17_method_1_code 1 = .ok (.invokespecial 1, 3) := by decide +kernel
theorem di_4 : decode prog_17_method_1_code 4 = .ok (.aload_n 0, 1) := by decide +kernel
theorem di_5 : decode prog_17_method_1_code 5 = .ok (.aload_n 1, 1) := by decide +kernel
theorem di_6 : decode prog_17_method_1_code 6 = .ok (.putfield 7, 3) := by decide +kernel
theorem di_9 : decode prog_17_method_1_code 9 = .ok (.aload_n 0, 1) := by decide +kernel
theorem di_10 : decode prog_17_method_1_code 10 = .ok (.aload_n 2, 1) := by decide +kernel
theorem di_11 : decode prog_17_method_1_code 11 = .ok (.putfield 13, 3) := by decide +kernel
theorem di_14 : decode prog_17_method_1_code 14 = .ok (.return_, 1) := by decide +kernel
theorem pn_com_example_options_into_arguments_optionsintoarguments_quality_Curve : plainName "com/example/options_into_arguments/optionsintoarguments/quality/Curve" = true := by first | (simp [plainName, overriddenIn]; done) | decide +kernel
theorem ef_i (m : MethodId) (x0 : Addr) (x1 : Addr) (x2 : Addr) : entryFrame m #[(.ref x0), (.ref x1), (.ref x2)] 3 = mkF m 0 #[.val (.ref x0), .val (.ref x1), .val (.ref x2)] [] := by first | (simp [entryFrame, mkF, argsToLocals, Value.category]; done) | rfl
def Qi (Z : State) (a1 a2 a3 : Addr) (h0 : Heap) (n0 : Nat) (v : Option Value) (h : Heap) (L : List Loc) : Prop := v = none ∧ Fr n0 L ∧ Keep h0 h [a1] ∧ Fld Z h a1 "com/example/options_into_arguments/optionsintoarguments/quality/Curve" "xs" "[D" (.ref a2) ∧ Fld Z h a1 "com/example/options_into_arguments/optionsintoarguments/quality/Curve" "ys" "[D" (.ref a3)
set_option maxRecDepth 65536 in
set_option maxHeartbeats 40000000 in
theorem rmi (l : Launch) (Z : State) (a0 : Array Value) (hw : ∀ d ∈ tables_1, d.before a0 Z = true) (ws : List Jvm.Cond) (a1 a2 a3 : Addr) (h0 : Heap) (n0 : Nat) (Z0 : n0 ≤ h0.size) (E1 : Exa Z h0 a1 "com/example/options_into_arguments/optionsintoarguments/quality/Curve") (F1 : Fld Z h0 a1 "com/example/options_into_arguments/optionsintoarguments/quality/Curve" "xs" "[D" .null) (F2 : Fld Z h0 a1 "com/example/options_into_arguments/optionsintoarguments/quality/Curve" "ys" "[D" .null) (g1 : n0 ≤ a1) :
    MetFree l (⟨"com/example/options_into_arguments/optionsintoarguments/quality/Curve", "<init>", "([D[D)V"⟩ : MethodName) (head1 (Jvm.Cond.code (⟨"com/example/options_into_arguments/optionsintoarguments/quality/Curve", "<init>", "([D[D)V"⟩ : MethodName) prog_17_method_1_code 3 none :: ws) ({ frames := 1, cells := 0, slots := 0, locals := 12 } : Room)) (fun a U => a = #[(.ref a1), (.ref a2), (.ref a3)] ∧ Z.Warmed39 U.vm ∧ U.heap = h0) (fun _ _ _ _ _ => True) (fun _ U o U' => ∃ v L, o = .returned v ∧ Qi Z a1 a2 a3 h0 n0 v U'.heap L ∧ FrameEnd U o U' L ({ frames := 1, cells := 0, slots := 0, locals := 12 } : Room).cells ({ frames := 1, cells := 0, slots := 0, locals := 12 } : Room).slots) := by
  refine MetFree.of_bodySF (plainFor_of_name pn_com_example_options_into_arguments_optionsintoarguments_quality_Curve) hisR ?_
  intro p e s m args below meth c s₁ Bd hml0 hP hK
  obtain ⟨rfl, hZ, hh⟩ := hP
  have hx := Bd.exec
  have hby := Bd.bytes
  have hlk : meth.locks = false := BodyLoose.notSynchronized Bd
  have hml : c.maxLocals = 3 := hml0
  have hown : s.vm.findClass "com/example/options_into_arguments/optionsintoarguments/quality/Curve" = some m.cls := findClass_of_methodNamed Bd.named
  have hnm := (name_of_methodNamed Bd.named Bd.method).1
  have X0 : Stand p l e ({ frames := 1, cells := 0, slots := 0, locals := 12 } : Room) s m #[(.ref a1), (.ref a2), (.ref a3)] below meth c s₁ [] 0 0 := Stand.of_body Bd
  have e0 : s₁.heap = h0 := by rw [← hh, Bd.state]; rfl
  have N0 := Fr.nil n0
  show own_G p.tables e below s (Qi Z a1 a2 a3 h0 n0) ({ frames := 1, cells := 0, slots := 0, locals := 12 } : Room).cells ({ frames := 1, cells := 0, slots := 0, locals := 12 } : Room).slots (s₁.setTop (entryFrame m #[(.ref a1), (.ref a2), (.ref a3)] 3))
  refine own_go (fun t k => castTop (ef_i m a1 a2 a3) k) ?_
  show own_G p.tables e below s _ _ _ (s₁.setTop (mkF m 0 #[.val (.ref a1), .val (.ref a2), .val (.ref a3)] []))
  refine own_go (fun t k => XS.aloadN X0.here hx rfl (hb hby di_0) rfl rfl k) ?_
  show own_G p.tables e below s _ _ _ (s₁.setTop (mkF m 1 #[.val (.ref a1), .val (.ref a2), .val (.ref a3)] [(.ref a1)]))
  obtain ⟨T1, X1, e1, st1⟩ := initO X0 hx hZ hown (hw _ (List.mem_of_getElem? (i := 13) rfl)) (hw _ (List.mem_of_getElem? (i := 14) rfl)) (hw _ (List.mem_of_getElem? (i := 15) rfl)) e0 (g := (mkF m 1 #[.val (.ref a1), .val (.ref a2), .val (.ref a3)] [(.ref a1)])) rfl (by rw [hml]; rfl) rfl (hb hby di_1) (by decide) (W := 0) (by show 2 * 0 + _ ≤ _; exact Nat.le_of_eq rfl) (by decide)
  refine own_go st1 ?_
  show own_G p.tables e below s _ _ _ (T1.setTop (mkF m 4 #[.val (.ref a1), .val (.ref a2), .val (.ref a3)] []))
  refine own_go (fun t k => XS.aloadN X1.here hx rfl (hb hby di_4) rfl rfl k) ?_
  show own_G p.tables e below s _ _ _ (T1.setTop (mkF m 5 #[.val (.ref a1), .val (.ref a2), .val (.ref a3)] [(.ref a1)]))
  refine own_go (fun t k => XS.aloadN X1.here hx rfl (hb hby di_5) rfl rfl k) ?_
  show own_G p.tables e below s _ _ _ (T1.setTop (mkF m 6 #[.val (.ref a1), .val (.ref a2), .val (.ref a3)] [(.ref a2), (.ref a1)]))
  obtain ⟨T2, h2, X2, e2, W2, st2⟩ := putF X1 hx hZ hown (host := "") (Or.inl (hw _ (List.mem_of_getElem? (i := 16) rfl))) Via.refl e1 F1 E1 (Or.inr ⟨(hw _ (List.mem_of_getElem? (i := 17) rfl)), rfl, hnm⟩) (hw _ (List.mem_of_getElem? (i := 9) rfl)) (ty := (.array .double)) (by decide) rfl rfl (g := (mkF m 6 #[.val (.ref a1), .val (.ref a2), .val (.ref a3)] [(.ref a2), (.ref a1)])) rfl rfl (hb hby di_6)
  have N2 := Fr.snoc X2 N0 g1
  refine own_go st2 ?_
  have f3 := Fld.same W2 F1
  have f4 := Exa.wr W2 E1
  have f5 := Fld.other W2 F2 (Or.inr (slot_ne (Or.inr (hw _ (List.mem_of_getElem? (i := 19) rfl))) (Or.inr (hw _ (List.mem_of_getElem? (i := 17) rfl))) (by decide) (t := (.array .double)) (t' := (.array .double)) (by decide) (by decide)))
  have z6 := Nat.le_trans Z0 (Keep.of_wr W2).1
  have k7 := (Keep.refl h0 [a1]).wr W2 (Or.inl (List.mem_of_getElem? (i := 0) rfl))
  show own_G p.tables e below s _ _ _ (T2.setTop (mkF m 9 #[.val (.ref a1), .val (.ref a2), .val (.ref a3)] []))
  refine own_go (fun t k => XS.aloadN X2.here hx rfl (hb hby di_9) rfl rfl k) ?_
  show own_G p.tables e below s _ _ _ (T2.setTop (mkF m 10 #[.val (.ref a1), .val (.ref a2), .val (.ref a3)] [(.ref a1)]))
  refine own_go (fun t k => XS.aloadN X2.here hx rfl (hb hby di_10) rfl rfl k) ?_
  show own_G p.tables e below s _ _ _ (T2.setTop (mkF m 11 #[.val (.ref a1), .val (.ref a2), .val (.ref a3)] [(.ref a3), (.ref a1)]))
  obtain ⟨T8, h8, X8, e8, W8, st8⟩ := putF X2 hx hZ hown (host := "") (Or.inl (hw _ (List.mem_of_getElem? (i := 18) rfl))) Via.refl e2 f5 f4 (Or.inr ⟨(hw _ (List.mem_of_getElem? (i := 19) rfl)), rfl, hnm⟩) (hw _ (List.mem_of_getElem? (i := 9) rfl)) (ty := (.array .double)) (by decide) rfl rfl (g := (mkF m 11 #[.val (.ref a1), .val (.ref a2), .val (.ref a3)] [(.ref a3), (.ref a1)])) rfl rfl (hb hby di_11)
  have N8 := Fr.snoc X8 N2 g1
  refine own_go st8 ?_
  have f9 := Fld.same W8 f5
  have f10 := Exa.wr W8 f4
  have f11 := Fld.other W8 f3 (Or.inr (slot_ne (Or.inr (hw _ (List.mem_of_getElem? (i := 17) rfl))) (Or.inr (hw _ (List.mem_of_getElem? (i := 19) rfl))) (by decide) (t := (.array .double)) (t' := (.array .double)) (by decide) (by decide)))
  have z12 := Nat.le_trans z6 (Keep.of_wr W8).1
  have k13 := k7.wr W8 (Or.inl (List.mem_of_getElem? (i := 0) rfl))
  show own_G p.tables e below s _ _ _ (T8.setTop (mkF m 14 #[.val (.ref a1), .val (.ref a2), .val (.ref a3)] []))
  exact own_retV X8 hx hlk Bd.returns (hb hby di_14) (by rw [e8]; exact ⟨rfl, N8, k13, f11, f9⟩) (by decide) (by decide)
theorem dt1_0 : decode prog_17_method_2_code 0 = .ok (.aload_n 0, 1) := by decide +kernel
theorem dt1_1 : decode prog_17_method_2_code 1 = .ok (.arraylength, 1) := by decide +kernel
theorem dt1_2 : decode prog_17_method_2_code 2 = .ok (.iconst 2, 1) := by decide +kernel
theorem dt1_3 : decode prog_17_method_2_code 3 = .ok (.if_icmp .lt 10, 3) := by decide +kernel
theorem dt1_6 : decode prog_17_method_2_code 6 = .ok (.aload_n 0, 1) := by decide +kernel
theorem dt1_7 : decode prog_17_method_2_code 7 = .ok (.arraylength, 1) := by decide +kernel
theorem dt1_8 : decode prog_17_method_2_code 8 = .ok (.iconst 2, 1) := by decide +kernel
theorem dt1_9 : decode prog_17_method_2_code 9 = .ok (.irem, 1) := by decide +kernel
theorem dt1_10 : decode prog_17_method_2_code 10 = .ok (.ifCond .eq 20, 3) := by decide +kernel
theorem dt1_30 : decode prog_17_method_2_code 30 = .ok (.aload_n 0, 1) := by decide +kernel
theorem dt1_31 : decode prog_17_method_2_code 31 = .ok (.arraylength, 1) := by decide +kernel
theorem dt1_32 : decode prog_17_method_2_code 32 = .ok (.iconst 2, 1) := by decide +kernel
theorem dt1_33 : decode prog_17_method_2_code 33 = .ok (.idiv, 1) := by decide +kernel
theorem dt1_34 : decode prog_17_method_2_code 34 = .ok (.newarray .double, 2) := by decide +kernel
theorem dt1_36 : decode prog_17_method_2_code 36 = .ok (.astore_n 1, 1) := by decide +kernel
theorem dt1_37 : decode prog_17_method_2_code 37 = .ok (.aload_n 0, 1) := by decide +kernel
theorem dt1_38 : decode prog_17_method_2_code 38 = .ok (.arraylength, 1) := by decide +kernel
theorem dt1_39 : decode prog_17_method_2_code 39 = .ok (.iconst 2, 1) := by decide +kernel
theorem dt1_40 : decode prog_17_method_2_code 40 = .ok (.idiv, 1) := by decide +kernel
theorem dt1_41 : decode prog_17_method_2_code 41 = .ok (.newarray .double, 2) := by decide +kernel
theorem dt1_43 : decode prog_17_method_2_code 43 = .ok (.astore_n 2, 1) := by decide +kernel
theorem dt1_44 : decode prog_17_method_2_code 44 = .ok (.iconst 0, 1) := by decide +kernel
theorem dt1_45 : decode prog_17_method_2_code 45 = .ok (.istore_n 3, 1) := by decide +kernel
theorem dt1_46 : decode prog_17_method_2_code 46 = .ok (.iload_n 3, 1) := by decide +kernel
theorem dt1_47 : decode prog_17_method_2_code 47 = .ok (.aload_n 1, 1) := by decide +kernel
theorem dt1_48 : decode prog_17_method_2_code 48 = .ok (.arraylength, 1) := by decide +kernel
theorem dt1_49 : decode prog_17_method_2_code 49 = .ok (.if_icmp .ge 76, 3) := by decide +kernel
theorem dt1_52 : decode prog_17_method_2_code 52 = .ok (.aload_n 1, 1) := by decide +kernel
theorem dt1_53 : decode prog_17_method_2_code 53 = .ok (.iload_n 3, 1) := by decide +kernel
theorem dt1_54 : decode prog_17_method_2_code 54 = .ok (.aload_n 0, 1) := by decide +kernel
theorem dt1_55 : decode prog_17_method_2_code 55 = .ok (.iconst 2, 1) := by decide +kernel
theorem dt1_56 : decode prog_17_method_2_code 56 = .ok (.iload_n 3, 1) := by decide +kernel
theorem dt1_57 : decode prog_17_method_2_code 57 = .ok (.imul, 1) := by decide +kernel
theorem dt1_58 : decode prog_17_method_2_code 58 = .ok (.daload, 1) := by decide +kernel
theorem dt1_59 : decode prog_17_method_2_code 59 = .ok (.dastore, 1) := by decide +kernel
theorem dt1_60 : decode prog_17_method_2_code 60 = .ok (.aload_n 2, 1) := by decide +kernel
theorem dt1_61 : decode prog_17_method_2_code 61 = .ok (.iload_n 3, 1) := by decide +kernel
theorem dt1_62 : decode prog_17_method_2_code 62 = .ok (.aload_n 0, 1) := by decide +kernel
theorem dt1_63 : decode prog_17_method_2_code 63 = .ok (.iconst 2, 1) := by decide +kernel
theorem dt1_64 : decode prog_17_method_2_code 64 = .ok (.iload_n 3, 1) := by decide +kernel
theorem dt1_65 : decode prog_17_method_2_code 65 = .ok (.imul, 1) := by decide +kernel
theorem dt1_66 : decode prog_17_method_2_code 66 = .ok (.iconst 1, 1) := by decide +kernel
theorem dt1_67 : decode prog_17_method_2_code 67 = .ok (.iadd, 1) := by decide +kernel
theorem dt1_68 : decode prog_17_method_2_code 68 = .ok (.daload, 1) := by decide +kernel
theorem dt1_69 : decode prog_17_method_2_code 69 = .ok (.dastore, 1) := by decide +kernel
theorem dt1_70 : decode prog_17_method_2_code 70 = .ok (.iload_n 3, 1) := by decide +kernel
theorem dt1_71 : decode prog_17_method_2_code 71 = .ok (.ifCond .le 15, 3) := by decide +kernel
theorem dt1_86 : decode prog_17_method_2_code 86 = .ok (.aload_n 2, 1) := by decide +kernel
theorem dt1_87 : decode prog_17_method_2_code 87 = .ok (.iload_n 3, 1) := by decide +kernel
theorem dt1_88 : decode prog_17_method_2_code 88 = .ok (.daload, 1) := by decide +kernel
theorem dt1_89 : decode prog_17_method_2_code 89 = .ok (.dconst 0, 1) := by decide +kernel
theorem dt1_90 : decode prog_17_method_2_code 90 = .ok (.dcmp .l, 1) := by decide +kernel
theorem dt1_91 : decode prog_17_method_2_code 91 = .ok (.ifCond .lt 11, 3) := by decide +kernel
theorem dt1_94 : decode prog_17_method_2_code 94 = .ok (.aload_n 2, 1) := by decide +kernel
theorem dt1_95 : decode prog_17_method_2_code 95 = .ok (.iload_n 3, 1) := by decide +kernel
theorem dt1_96 : decode prog_17_method_2_code 96 = .ok (.daload, 1) := by decide +kernel
theorem dt1_97 : decode prog_17_method_2_code 97 = .ok (.dconst 1, 1) := by decide +kernel
theorem dt1_98 : decode prog_17_method_2_code 98 = .ok (.dcmp .g, 1) := by decide +kernel
theorem dt1_99 : decode prog_17_method_2_code 99 = .ok (.ifCond .le 20, 3) := by decide +kernel
theorem dt1_119 : decode prog_17_method_2_code 119 = .ok (.iinc 3 1, 3) := by decide +kernel
theorem dt1_122 : decode prog_17_method_2_code 122 = .ok (.goto (-76), 3) := by decide +kernel
theorem dt1_125 : decode prog_17_method_2_code 125 = .ok (.new 8, 3) := by decide +kernel
theorem dt1_128 : decode prog_17_method_2_code 128 = .ok (.dup, 1) := by decide +kernel
theorem dt1_129 : decode prog_17_method_2_code 129 = .ok (.aload_n 1, 1) := by decide +kernel
theorem dt1_130 : decode prog_17_method_2_code 130 = .ok (.aload_n 2, 1) := by decide +kernel
theorem pd___D_D_V : parseMethodDescriptor "([D[D)V" = some ⟨[(.array .double), (.array .double)], none⟩ := by decide +kernel
theorem dt1_131 : decode prog_17_method_2_code 131 = .ok (.invokespecial 32, 3) := by decide +kernel
theorem dt1_134 : decode prog_17_method_2_code 134 = .ok (.areturn, 1) := by decide +kernel
theorem ef_t1 (m : MethodId) (x0 : Addr) : entryFrame m #[(.ref x0)] 4 = mkF m 0 #[.val (.ref x0), .unset, .unset, .unset] [] := by first | (simp [entryFrame, mkF, argsToLocals, Value.category]; done) | rfl
def Qt1 (Z : State) (a1 : Addr) (k1 : ClassId) (x0 y0 : UInt64) (PX0 PY0 : Int) (h0 : Heap) (n0 : Nat) (v : Option Value) (h : Heap) (L : List Loc) : Prop := (∃ (b xa ya : Addr) (kx ky : ClassId), v = some (.ref b) ∧ Exa Z h b "com/example/options_into_arguments/optionsintoarguments/quality/Curve" ∧ Fld Z h b "com/example/options_into_arguments/optionsintoarguments/quality/Curve" "xs" "[D" (.ref xa) ∧ Fld Z h b "com/example/options_into_arguments/optionsintoarguments/quality/Curve" "ys" "[D" (.ref ya) ∧ Arv Z h xa kx .double (1 : Int32) [(.double x0)] (.double 0) ∧ Arv Z h ya ky .double (1 : Int32) [(.double y0)] (.double 0)) ∧ Fr n0 L ∧ Keep h0 h []
set_option maxRecDepth 65536 in
set_option maxHeartbeats 40000000 in
theorem rmt1 (l : Launch) (Z : State) (a0 : Array Value) (hw : ∀ d ∈ tables_1, d.before a0 Z = true) (ws : List Jvm.Cond) (a1 : Addr) (k1 : ClassId) (x0 y0 : UInt64) (PX0 PY0 : Int) (h0 : Heap) (n0 : Nat) (Z0 : n0 ≤ h0.size) (V1 : Arv Z h0 a1 k1 .double (2 : Int32) [(.double x0), (.double y0)] (.double 0)) (hx0 : own_E PX0 x0) (hy0 : own_E PY0 y0)  (hY0 : 0 ≤ PY0 ∧ PY0 ≤ 8) :
    MetFree l (⟨"com/example/options_into_arguments/optionsintoarguments/quality/Curve", "through", "([D)Lcom/example/options_into_arguments/optionsintoarguments/quality/Curve;"⟩ : MethodName) (head1 (Jvm.Cond.code (⟨"com/example/options_into_arguments/optionsintoarguments/quality/Curve", "through", "([D)Lcom/example/options_into_arguments/optionsintoarguments/quality/Curve;"⟩ : MethodName) prog_17_method_2_code 4 (some (.object "com/example/options_into_arguments/optionsintoarguments/quality/Curve")) :: ws) ({ frames := 2, cells := 3, slots := 4, locals := 27 } : Room)) (fun a U => a = #[(.ref a1)] ∧ Z.Warmed39 U.vm ∧ U.heap = h0) (fun _ _ _ _ _ => True) (fun _ U o U' => ∃ v L, o = .returned v ∧ Qt1 Z a1 k1 x0 y0 PX0 PY0 h0 n0 v U'.heap L ∧ FrameEnd U o U' L ({ frames := 2, cells := 3, slots := 4, locals := 27 } : Room).cells ({ frames := 2, cells := 3, slots := 4, locals := 27 } : Room).slots) := by
  refine MetFree.of_bodySF (plainFor_of_name pn_com_example_options_into_arguments_optionsintoarguments_quality_Curve) hisR ?_
  intro p e s m args below meth c s₁ Bd hml0 hP hK
  obtain ⟨rfl, hZ, hh⟩ := hP
  have hx := Bd.exec
  have hby := Bd.bytes
  have hlk : meth.locks = false := BodyLoose.notSynchronized Bd
  have hml : c.maxLocals = 4 := hml0
  have hown : s.vm.findClass "com/example/options_into_arguments/optionsintoarguments/quality/Curve" = some m.cls := findClass_of_methodNamed Bd.named
  have hnm := (name_of_methodNamed Bd.named Bd.method).1
  have X0 : Stand p l e ({ frames := 2, cells := 3, slots := 4, locals := 27 } : Room) s m #[(.ref a1)] below meth c s₁ [] 0 0 := Stand.of_body Bd
  have e0 : s₁.heap = h0 := by rw [← hh, Bd.state]; rfl
  have N0 := Fr.nil n0
  show own_G p.tables e below s (Qt1 Z a1 k1 x0 y0 PX0 PY0 h0 n0) ({ frames := 2, cells := 3, slots := 4, locals := 27 } : Room).cells ({ frames := 2, cells := 3, slots := 4, locals := 27 } : Room).slots (s₁.setTop (entryFrame m #[(.ref a1)] 4))
  refine own_go (fun t k => castTop (ef_t1 m a1) k) ?_
  show own_G p.tables e below s _ _ _ (s₁.setTop (mkF m 0 #[.val (.ref a1), .unset, .unset, .unset] []))
  refine own_go (fun t k => XS.aloadN X0.here hx rfl (hb hby dt1_0) rfl rfl k) ?_
  show own_G p.tables e below s _ _ _ (s₁.setTop (mkF m 1 #[.val (.ref a1), .unset, .unset, .unset] [(.ref a1)]))
  obtain ⟨cl14, Ar14, q14, S14, NN14, HH14, GG14⟩ := id V1
  have hlen14 := len_of S14 NN14
  refine own_go (A := s₁.setTop (mkF m 2 #[.val (.ref a1), .unset, .unset, .unset] [(.int (2 : Int32))])) (fun t k => X0.arraylength hx (by rw [e0]; exact Ar14.1) (State.isArrayOf_alike hZ.alike Ar14.2.1) (g := (mkF m 1 #[.val (.ref a1), .unset, .unset, .unset] [(.ref a1)])) rfl rfl (hb hby dt1_1) _ (by rw [hlen14]; exact k)) ?_
  show own_G p.tables e below s _ _ _ (s₁.setTop (mkF m 2 #[.val (.ref a1), .unset, .unset, .unset] [(.int (2 : Int32))]))
  refine own_go (fun t k => XS.iconst X0.here hx rfl (hb hby dt1_2) k) ?_
  show own_G p.tables e below s _ _ _ (s₁.setTop (mkF m 3 #[.val (.ref a1), .unset, .unset, .unset] [(.int (2 : Int32)), (.int (2 : Int32))]))
  refine own_go (fun t k => XS.icmpNo X0.here hx rfl (hb hby dt1_3) rfl (by decide) k) ?_
  show own_G p.tables e below s _ _ _ (s₁.setTop (mkF m 6 #[.val (.ref a1), .unset, .unset, .unset] []))
  refine own_go (fun t k => XS.aloadN X0.here hx rfl (hb hby dt1_6) rfl rfl k) ?_
  show own_G p.tables e below s _ _ _ (s₁.setTop (mkF m 7 #[.val (.ref a1), .unset, .unset, .unset] [(.ref a1)]))
  obtain ⟨cl15, Ar15, q15, S15, NN15, HH15, GG15⟩ := id V1
  have hlen15 := len_of S15 NN15
  refine own_go (A := s₁.setTop (mkF m 8 #[.val (.ref a1), .unset, .unset, .unset] [(.int (2 : Int32))])) (fun t k => X0.arraylength hx (by rw [e0]; exact Ar15.1) (State.isArrayOf_alike hZ.alike Ar15.2.1) (g := (mkF m 7 #[.val (.ref a1), .unset, .unset, .unset] [(.ref a1)])) rfl rfl (hb hby dt1_7) _ (by rw [hlen15]; exact k)) ?_
  show own_G p.tables e below s _ _ _ (s₁.setTop (mkF m 8 #[.val (.ref a1), .unset, .unset, .unset] [(.int (2 : Int32))]))
  refine own_go (fun t k => XS.iconst X0.here hx rfl (hb hby dt1_8) k) ?_
  show own_G p.tables e below s _ _ _ (s₁.setTop (mkF m 9 #[.val (.ref a1), .unset, .unset, .unset] [(.int (2 : Int32)), (.int (2 : Int32))]))
  refine own_go (fun t k => iremM X0 hx rfl (hb hby dt1_9) rfl (by decide) k) ?_
  show own_G p.tables e below s _ _ _ (s₁.setTop (mkF m 10 #[.val (.ref a1), .unset, .unset, .unset] [(.int (0 : Int32))]))
  refine own_go (fun t k => XS.ifYes X0.here hx rfl (pc0 := 10) (pc' := 30) rfl (hb hby dt1_10) rfl (by decide) (by decide) (by decide) k) ?_
  show own_G p.tables e below s _ _ _ (s₁.setTop (mkF m 30 #[.val (.ref a1), .unset, .unset, .unset] []))
  refine own_go (fun t k => XS.aloadN X0.here hx rfl (hb hby dt1_30) rfl rfl k) ?_
  show own_G p.tables e below s _ _ _ (s₁.setTop (mkF m 31 #[.val (.ref a1), .unset, .unset, .unset] [(.ref a1)]))
  obtain ⟨cl16, Ar16, q16, S16, NN16, HH16, GG16⟩ := id V1
  have hlen16 := len_of S16 NN16
  refine own_go (A := s₁.setTop (mkF m 32 #[.val (.ref a1), .unset, .unset, .unset] [(.int (2 : Int32))])) (fun t k => X0.arraylength hx (by rw [e0]; exact Ar16.1) (State.isArrayOf_alike hZ.alike Ar16.2.1) (g := (mkF m 31 #[.val (.ref a1), .unset, .unset, .unset] [(.ref a1)])) rfl rfl (hb hby dt1_31) _ (by rw [hlen16]; exact k)) ?_
  show own_G p.tables e below s _ _ _ (s₁.setTop (mkF m 32 #[.val (.ref a1), .unset, .unset, .unset] [(.int (2 : Int32))]))
  refine own_go (fun t k => XS.iconst X0.here hx rfl (hb hby dt1_32) k) ?_
  show own_G p.tables e below s _ _ _ (s₁.setTop (mkF m 33 #[.val (.ref a1), .unset, .unset, .unset] [(.int (2 : Int32)), (.int (2 : Int32))]))
  refine own_go (fun t k => XS.idiv X0.here hx rfl (hb hby dt1_33) rfl (by decide) k) ?_
  show own_G p.tables e below s _ _ _ (s₁.setTop (mkF m 34 #[.val (.ref a1), .unset, .unset, .unset] [(.int (1 : Int32))]))
  obtain ⟨T17, h17, k17, X17, e17, E17, A17, st17⟩ := newP X0 hx hZ (hw _ (List.mem_of_getElem? (i := 3) rfl)) e0 (g := (mkF m 34 #[.val (.ref a1), .unset, .unset, .unset] [(.int (1 : Int32))])) rfl (hb hby dt1_34) rfl (by decide) (cap := 1) (by decide) (by decide) (by decide) (by decide)
  obtain ⟨b17, g17⟩ : ∃ z, z = h0.size := ⟨_, rfl⟩
  rw [← g17] at A17 st17
  refine own_go st17 ?_
  have g18 := Nat.le_trans Z0 (Nat.le_of_eq g17.symm)
  have s19 := Nat.le_trans (Keep.refl h0 []).1 (Nat.le_of_eq g17.symm)
  have n20 := Nat.ne_of_lt (Nat.lt_of_lt_of_le V1.lt (Nat.le_of_eq g17.symm))
  have f21 := V1.ext E17
  have z22 := Nat.le_trans Z0 E17.1
  have k23 := (Keep.refl h0 []).ext E17
  have v24 : Arv Z h17 b17 k17 .double (1 : Int32) [(.double 0)] (.double 0) := (Arv.new A17 (by decide)).pad (pad_rep [] (.double 0) 1)
  show own_G p.tables e below s _ _ _ (T17.setTop (mkF m 36 #[.val (.ref a1), .unset, .unset, .unset] [(.ref b17)]))
  refine own_go (fun t k => XS.astoreN X17.here hx rfl (hb hby dt1_36) rfl rfl (l' := #[.val (.ref a1), .val (.ref b17), .unset, .unset]) rfl k) ?_
  show own_G p.tables e below s _ _ _ (T17.setTop (mkF m 37 #[.val (.ref a1), .val (.ref b17), .unset, .unset] []))
  refine own_go (fun t k => XS.aloadN X17.here hx rfl (hb hby dt1_37) rfl rfl k) ?_
  show own_G p.tables e below s _ _ _ (T17.setTop (mkF m 38 #[.val (.ref a1), .val (.ref b17), .unset, .unset] [(.ref a1)]))
  obtain ⟨cl25, Ar25, q25, S25, NN25, HH25, GG25⟩ := id f21
  have hlen25 := len_of S25 NN25
  refine own_go (A := T17.setTop (mkF m 39 #[.val (.ref a1), .val (.ref b17), .unset, .unset] [(.int (2 : Int32))])) (fun t k => X17.arraylength hx (by rw [e17]; exact Ar25.1) (State.isArrayOf_alike hZ.alike Ar25.2.1) (g := (mkF m 38 #[.val (.ref a1), .val (.ref b17), .unset, .unset] [(.ref a1)])) rfl rfl (hb hby dt1_38) _ (by rw [hlen25]; exact k)) ?_
  show own_G p.tables e below s _ _ _ (T17.setTop (mkF m 39 #[.val (.ref a1), .val (.ref b17), .unset, .unset] [(.int (2 : Int32))]))
  refine own_go (fun t k => XS.iconst X17.here hx rfl (hb hby dt1_39) k) ?_
  show own_G p.tables e below s _ _ _ (T17.setTop (mkF m 40 #[.val (.ref a1), .val (.ref b17), .unset, .unset] [(.int (2 : Int32)), (.int (2 : Int32))]))
  refine own_go (fun t k => XS.idiv X17.here hx rfl (hb hby dt1_40) rfl (by decide) k) ?_
  show own_G p.tables e below s _ _ _ (T17.setTop (mkF m 41 #[.val (.ref a1), .val (.ref b17), .unset, .unset] [(.int (1 : Int32))]))
  obtain ⟨T26, h26, k26, X26, e26, E26, A26, st26⟩ := newP X17 hx hZ (hw _ (List.mem_of_getElem? (i := 3) rfl)) e17 (g := (mkF m 41 #[.val (.ref a1), .val (.ref b17), .unset, .unset] [(.int (1 : Int32))])) rfl (hb hby dt1_41) rfl (by decide) (cap := 1) (by decide) (by decide) (by decide) (by decide)
  obtain ⟨b26, g26⟩ : ∃ z, z = h17.size := ⟨_, rfl⟩
  rw [← g26] at A26 st26
  refine own_go st26 ?_
  have g27 := Nat.le_trans z22 (Nat.le_of_eq g26.symm)
  have s28 := Nat.le_trans k23.1 (Nat.le_of_eq g26.symm)
  have n29 := Nat.ne_of_lt (Nat.lt_of_lt_of_le f21.lt (Nat.le_of_eq g26.symm))
  have n30 := Nat.ne_of_lt (Nat.lt_of_lt_of_le v24.lt (Nat.le_of_eq g26.symm))
  have f31 := f21.ext E26
  have f32 := v24.ext E26
  have z33 := Nat.le_trans z22 E26.1
  have k34 := k23.ext E26
  have v35 : Arv Z h26 b26 k26 .double (1 : Int32) [(.double 0)] (.double 0) := (Arv.new A26 (by decide)).pad (pad_rep [] (.double 0) 1)
  show own_G p.tables e below s _ _ _ (T26.setTop (mkF m 43 #[.val (.ref a1), .val (.ref b17), .unset, .unset] [(.ref b26)]))
  refine own_go (fun t k => XS.astoreN X26.here hx rfl (hb hby dt1_43) rfl rfl (l' := #[.val (.ref a1), .val (.ref b17), .val (.ref b26), .unset]) rfl k) ?_
  show own_G p.tables e below s _ _ _ (T26.setTop (mkF m 44 #[.val (.ref a1), .val (.ref b17), .val (.ref b26), .unset] []))
  refine own_go (fun t k => XS.iconst X26.here hx rfl (hb hby dt1_44) k) ?_
  show own_G p.tables e below s _ _ _ (T26.setTop (mkF m 45 #[.val (.ref a1), .val (.ref b17), .val (.ref b26), .unset] [(.int (0 : Int32))]))
  refine own_go (fun t k => XS.istoreN X26.here hx rfl (hb hby dt1_45) rfl (l' := #[.val (.ref a1), .val (.ref b17), .val (.ref b26), .val (.int (0 : Int32))]) rfl k) ?_
  show own_G p.tables e below s _ _ _ (T26.setTop (mkF m 46 #[.val (.ref a1), .val (.ref b17), .val (.ref b26), .val (.int (0 : Int32))] []))
  refine own_go (fun t k => XS.iloadN X26.here hx rfl (hb hby dt1_46) rfl k) ?_
  show own_G p.tables e below s _ _ _ (T26.setTop (mkF m 47 #[.val (.ref a1), .val (.ref b17), .val (.ref b26), .val (.int (0 : Int32))] [(.int (0 : Int32))]))
  refine own_go (fun t k => XS.aloadN X26.here hx rfl (hb hby dt1_47) rfl rfl k) ?_
  show own_G p.tables e below s _ _ _ (T26.setTop (mkF m 48 #[.val (.ref a1), .val (.ref b17), .val (.ref b26), .val (.int (0 : Int32))] [(.ref b17), (.int (0 : Int32))]))
  obtain ⟨cl36, Ar36, q36, S36, NN36, HH36, GG36⟩ := id f32
  have hlen36 := len_of S36 NN36
  refine own_go (A := T26.setTop (mkF m 49 #[.val (.ref a1), .val (.ref b17), .val (.ref b26), .val (.int (0 : Int32))] [(.int (1 : Int32)), (.int (0 : Int32))])) (fun t k => X26.arraylength hx (by rw [e26]; exact Ar36.1) (State.isArrayOf_alike hZ.alike Ar36.2.1) (g := (mkF m 48 #[.val (.ref a1), .val (.ref b17), .val (.ref b26), .val (.int (0 : Int32))] [(.ref b17), (.int (0 : Int32))])) rfl rfl (hb hby dt1_48) _ (by rw [hlen36]; exact k)) ?_
  show own_G p.tables e below s _ _ _ (T26.setTop (mkF m 49 #[.val (.ref a1), .val (.ref b17), .val (.ref b26), .val (.int (0 : Int32))] [(.int (1 : Int32)), (.int (0 : Int32))]))
  refine own_go (fun t k => XS.icmpNo X26.here hx rfl (hb hby dt1_49) rfl (by decide) k) ?_
  show own_G p.tables e below s _ _ _ (T26.setTop (mkF m 52 #[.val (.ref a1), .val (.ref b17), .val (.ref b26), .val (.int (0 : Int32))] []))
  refine own_go (fun t k => XS.aloadN X26.here hx rfl (hb hby dt1_52) rfl rfl k) ?_
  show own_G p.tables e below s _ _ _ (T26.setTop (mkF m 53 #[.val (.ref a1), .val (.ref b17), .val (.ref b26), .val (.int (0 : Int32))] [(.ref b17)]))
  refine own_go (fun t k => XS.iloadN X26.here hx rfl (hb hby dt1_53) rfl k) ?_
  show own_G p.tables e below s _ _ _ (T26.setTop (mkF m 54 #[.val (.ref a1), .val (.ref b17), .val (.ref b26), .val (.int (0 : Int32))] [(.int (0 : Int32)), (.ref b17)]))
  refine own_go (fun t k => XS.aloadN X26.here hx rfl (hb hby dt1_54) rfl rfl k) ?_
  show own_G p.tables e below s _ _ _ (T26.setTop (mkF m 55 #[.val (.ref a1), .val (.ref b17), .val (.ref b26), .val (.int (0 : Int32))] [(.ref a1), (.int (0 : Int32)), (.ref b17)]))
  refine own_go (fun t k => XS.iconst X26.here hx rfl (hb hby dt1_55) k) ?_
  show own_G p.tables e below s _ _ _ (T26.setTop (mkF m 56 #[.val (.ref a1), .val (.ref b17), .val (.ref b26), .val (.int (0 : Int32))] [(.int (2 : Int32)), (.ref a1), (.int (0 : Int32)), (.ref b17)]))
  refine own_go (fun t k => XS.iloadN X26.here hx rfl (hb hby dt1_56) rfl k) ?_
  show own_G p.tables e below s _ _ _ (T26.setTop (mkF m 57 #[.val (.ref a1), .val (.ref b17), .val (.ref b26), .val (.int (0 : Int32))] [(.int (0 : Int32)), (.int (2 : Int32)), (.ref a1), (.int (0 : Int32)), (.ref b17)]))
  refine own_go (fun t k => XS.imul X26.here hx rfl (hb hby dt1_57) rfl k) ?_
  show own_G p.tables e below s _ _ _ (T26.setTop (mkF m 58 #[.val (.ref a1), .val (.ref b17), .val (.ref b26), .val (.int (0 : Int32))] [(.int (0 : Int32)), (.ref a1), (.int (0 : Int32)), (.ref b17)]))
  obtain ⟨cl37, Ar37, q37, S37, NN37, HH37, GG37⟩ := id f31
  have hin37 : ¬ ((0 : Int32) < 0 ∨ cl37.slots.size ≤ ((0 : Int32)).toNatClampNeg) := inb_of S37 ⟨by decide, by decide⟩
  have hat37 : cl37.slots[((0 : Int32)).toNatClampNeg]? = some (.double x0) := Has.at HH37 hin37 rfl
  refine own_go (fun t k => X26.daload hx (j := (0 : Int32)) (v := (.double x0)) (by rw [e26]; exact Ar37.1) (State.isArrayOf_alike hZ.alike Ar37.2.1) Ar37.2.2 hin37 hat37 (g := (mkF m 58 #[.val (.ref a1), .val (.ref b17), .val (.ref b26), .val (.int (0 : Int32))] [(.int (0 : Int32)), (.ref a1), (.int (0 : Int32)), (.ref b17)])) rfl rfl (hb hby dt1_58) _ k) ?_
  show own_G p.tables e below s _ _ _ (T26.setTop (mkF m 59 #[.val (.ref a1), .val (.ref b17), .val (.ref b26), .val (.int (0 : Int32))] [(.double x0), (.int (0 : Int32)), (.ref b17)]))
  obtain ⟨cl38, Ar38, q38, S38, NN38, HH38, GG38⟩ := f32
  have hin38 : ¬ ((0 : Int32) < 0 ∨ cl38.slots.size ≤ ((0 : Int32)).toNatClampNeg) := inb_of S38 ⟨by decide, by decide⟩
  obtain ⟨T38, h38, X38, e38, W38, st38⟩ := stD X26 hx hZ e26 Ar38 (j := (0 : Int32)) hin38 (g := (mkF m 59 #[.val (.ref a1), .val (.ref b17), .val (.ref b26), .val (.int (0 : Int32))] [(.double x0), (.int (0 : Int32)), (.ref b17)])) rfl rfl (hb hby dt1_59)
  refine own_go st38 ?_
  have v39 : Arv Z h38 b17 k17 .double (1 : Int32) [(.double x0)] (.double 0) := Arv.set Ar38 q38 S38 NN38 HH38 GG38 rfl W38 0 rfl (Nat.le_of_ble_eq_true rfl)
  have f40 := f31.other W38 n20
  have f41 := v35.other W38 (Ne.symm n30)
  have z42 := Nat.le_trans z33 (Keep.of_wr W38).1
  have k43 := k34.wr W38 (Or.inr s19)
  have N38 := Fr.snoc X38 N0 g18
  show own_G p.tables e below s _ _ _ (T38.setTop (mkF m 60 #[.val (.ref a1), .val (.ref b17), .val (.ref b26), .val (.int (0 : Int32))] []))
  refine own_go (fun t k => XS.aloadN X38.here hx rfl (hb hby dt1_60) rfl rfl k) ?_
  show own_G p.tables e below s _ _ _ (T38.setTop (mkF m 61 #[.val (.ref a1), .val (.ref b17), .val (.ref b26), .val (.int (0 : Int32))] [(.ref b26)]))
  refine own_go (fun t k => XS.iloadN X38.here hx rfl (hb hby dt1_61) rfl k) ?_
  show own_G p.tables e below s _ _ _ (T38.setTop (mkF m 62 #[.val (.ref a1), .val (.ref b17), .val (.ref b26), .val (.int (0 : Int32))] [(.int (0 : Int32)), (.ref b26)]))
  refine own_go (fun t k => XS.aloadN X38.here hx rfl (hb hby dt1_62) rfl rfl k) ?_
  show own_G p.tables e below s _ _ _ (T38.setTop (mkF m 63 #[.val (.ref a1), .val (.ref b17), .val (.ref b26), .val (.int (0 : Int32))] [(.ref a1), (.int (0 : Int32)), (.ref b26)]))
  refine own_go (fun t k => XS.iconst X38.here hx rfl (hb hby dt1_63) k) ?_
  show own_G p.tables e below s _ _ _ (T38.setTop (mkF m 64 #[.val (.ref a1), .val (.ref b17), .val (.ref b26), .val (.int (0 : Int32))] [(.int (2 : Int32)), (.ref a1), (.int (0 : Int32)), (.ref b26)]))
  refine own_go (fun t k => XS.iloadN X38.here hx rfl (hb hby dt1_64) rfl k) ?_
  show own_G p.tables e below s _ _ _ (T38.setTop (mkF m 65 #[.val (.ref a1), .val (.ref b17), .val (.ref b26), .val (.int (0 : Int32))] [(.int (0 : Int32)), (.int (2 : Int32)), (.ref a1), (.int (0 : Int32)), (.ref b26)]))
  refine own_go (fun t k => XS.imul X38.here hx rfl (hb hby dt1_65) rfl k) ?_
  show own_G p.tables e below s _ _ _ (T38.setTop (mkF m 66 #[.val (.ref a1), .val (.ref b17), .val (.ref b26), .val (.int (0 : Int32))] [(.int (0 : Int32)), (.ref a1), (.int (0 : Int32)), (.ref b26)]))
  refine own_go (fun t k => XS.iconst X38.here hx rfl (hb hby dt1_66) k) ?_
  show own_G p.tables e below s _ _ _ (T38.setTop (mkF m 67 #[.val (.ref a1), .val (.ref b17), .val (.ref b26), .val (.int (0 : Int32))] [(.int (1 : Int32)), (.int (0 : Int32)), (.ref a1), (.int (0 : Int32)), (.ref b26)]))
  refine own_go (fun t k => XS.iadd X38.here hx rfl (hb hby dt1_67) rfl k) ?_
  show own_G p.tables e below s _ _ _ (T38.setTop (mkF m 68 #[.val (.ref a1), .val (.ref b17), .val (.ref b26), .val (.int (0 : Int32))] [(.int (1 : Int32)), (.ref a1), (.int (0 : Int32)), (.ref b26)]))
  obtain ⟨cl44, Ar44, q44, S44, NN44, HH44, GG44⟩ := id f40
  have hin44 : ¬ ((1 : Int32) < 0 ∨ cl44.slots.size ≤ ((1 : Int32)).toNatClampNeg) := inb_of S44 ⟨by decide, by decide⟩
  have hat44 : cl44.slots[((1 : Int32)).toNatClampNeg]? = some (.double y0) := Has.at HH44 hin44 rfl
  refine own_go (fun t k => X38.daload hx (j := (1 : Int32)) (v := (.double y0)) (by rw [e38]; exact Ar44.1) (State.isArrayOf_alike hZ.alike Ar44.2.1) Ar44.2.2 hin44 hat44 (g := (mkF m 68 #[.val (.ref a1), .val (.ref b17), .val (.ref b26), .val (.int (0 : Int32))] [(.int (1 : Int32)), (.ref a1), (.int (0 : Int32)), (.ref b26)])) rfl rfl (hb hby dt1_68) _ k) ?_
  show own_G p.tables e below s _ _ _ (T38.setTop (mkF m 69 #[.val (.ref a1), .val (.ref b17), .val (.ref b26), .val (.int (0 : Int32))] [(.double y0), (.int (0 : Int32)), (.ref b26)]))
  obtain ⟨cl45, Ar45, q45, S45, NN45, HH45, GG45⟩ := f41
  have hin45 : ¬ ((0 : Int32) < 0 ∨ cl45.slots.size ≤ ((0 : Int32)).toNatClampNeg) := inb_of S45 ⟨by decide, by decide⟩
  obtain ⟨T45, h45, X45, e45, W45, st45⟩ := stD X38 hx hZ e38 Ar45 (j := (0 : Int32)) hin45 (g := (mkF m 69 #[.val (.ref a1), .val (.ref b17), .val (.ref b26), .val (.int (0 : Int32))] [(.double y0), (.int (0 : Int32)), (.ref b26)])) rfl rfl (hb hby dt1_69)
  refine own_go st45 ?_
  have v46 : Arv Z h45 b26 k26 .double (1 : Int32) [(.double y0)] (.double 0) := Arv.set Ar45 q45 S45 NN45 HH45 GG45 rfl W45 0 rfl (Nat.le_of_ble_eq_true rfl)
  have f47 := f40.other W45 n29
  have f48 := v39.other W45 n30
  have z49 := Nat.le_trans z42 (Keep.of_wr W45).1
  have k50 := k43.wr W45 (Or.inr s28)
  have N45 := Fr.snoc X45 N38 g27
  show own_G p.tables e below s _ _ _ (T45.setTop (mkF m 70 #[.val (.ref a1), .val (.ref b17), .val (.ref b26), .val (.int (0 : Int32))] []))
  refine own_go (fun t k => XS.iloadN X45.here hx rfl (hb hby dt1_70) rfl k) ?_
  show own_G p.tables e below s _ _ _ (T45.setTop (mkF m 71 #[.val (.ref a1), .val (.ref b17), .val (.ref b26), .val (.int (0 : Int32))] [(.int (0 : Int32))]))
  refine own_go (fun t k => XS.ifYes X45.here hx rfl (pc0 := 71) (pc' := 86) rfl (hb hby dt1_71) rfl (by decide) (by decide) (by decide) k) ?_
  show own_G p.tables e below s _ _ _ (T45.setTop (mkF m 86 #[.val (.ref a1), .val (.ref b17), .val (.ref b26), .val (.int (0 : Int32))] []))
  refine own_go (fun t k => XS.aloadN X45.here hx rfl (hb hby dt1_86) rfl rfl k) ?_
  show own_G p.tables e below s _ _ _ (T45.setTop (mkF m 87 #[.val (.ref a1), .val (.ref b17), .val (.ref b26), .val (.int (0 : Int32))] [(.ref b26)]))
  refine own_go (fun t k => XS.iloadN X45.here hx rfl (hb hby dt1_87) rfl k) ?_
  show own_G p.tables e below s _ _ _ (T45.setTop (mkF m 88 #[.val (.ref a1), .val (.ref b17), .val (.ref b26), .val (.int (0 : Int32))] [(.int (0 : Int32)), (.ref b26)]))
  obtain ⟨cl51, Ar51, q51, S51, NN51, HH51, GG51⟩ := id v46
  have hin51 : ¬ ((0 : Int32) < 0 ∨ cl51.slots.size ≤ ((0 : Int32)).toNatClampNeg) := inb_of S51 ⟨by decide, by decide⟩
  have hat51 : cl51.slots[((0 : Int32)).toNatClampNeg]? = some (.double y0) := Has.at HH51 hin51 rfl
  refine own_go (fun t k => X45.daload hx (j := (0 : Int32)) (v := (.double y0)) (by rw [e45]; exact Ar51.1) (State.isArrayOf_alike hZ.alike Ar51.2.1) Ar51.2.2 hin51 hat51 (g := (mkF m 88 #[.val (.ref a1), .val (.ref b17), .val (.ref b26), .val (.int (0 : Int32))] [(.int (0 : Int32)), (.ref b26)])) rfl rfl (hb hby dt1_88) _ k) ?_
  show own_G p.tables e below s _ _ _ (T45.setTop (mkF m 89 #[.val (.ref a1), .val (.ref b17), .val (.ref b26), .val (.int (0 : Int32))] [(.double y0)]))
  refine own_go (fun t k => XS.dconst0 X45.here hx rfl (hb hby dt1_89) rfl k) ?_
  show own_G p.tables e below s _ _ _ (T45.setTop (mkF m 90 #[.val (.ref a1), .val (.ref b17), .val (.ref b26), .val (.int (0 : Int32))] [(.double Jvm.FP.dconst0), (.double y0)]))
  refine own_go (fun t k => XS.dcmpS X45.here hx rfl (hb hby dt1_90) rfl (own_cmpv hy0 own_d0) k) ?_
  show own_G p.tables e below s _ _ _ (T45.setTop (mkF m 91 #[.val (.ref a1), .val (.ref b17), .val (.ref b26), .val (.int (0 : Int32))] [(.int (own_c (PY0) (0)))]))
  refine own_go (fun t k => XS.ifNo X45.here hx rfl (hb hby dt1_91) rfl (Jvm.Free.XT.i0_lt_f (own_c_ge hY0.1)) k) ?_
  show own_G p.tables e below s _ _ _ (T45.setTop (mkF m 94 #[.val (.ref a1), .val (.ref b17), .val (.ref b26), .val (.int (0 : Int32))] []))
  refine own_go (fun t k => XS.aloadN X45.here hx rfl (hb hby dt1_94) rfl rfl k) ?_
  show own_G p.tables e below s _ _ _ (T45.setTop (mkF m 95 #[.val (.ref a1), .val (.ref b17), .val (.ref b26), .val (.int (0 : Int32))] [(.ref b26)]))
  refine own_go (fun t k => XS.iloadN X45.here hx rfl (hb hby dt1_95) rfl k) ?_
  show own_G p.tables e below s _ _ _ (T45.setTop (mkF m 96 #[.val (.ref a1), .val (.ref b17), .val (.ref b26), .val (.int (0 : Int32))] [(.int (0 : Int32)), (.ref b26)]))
  obtain ⟨cl52, Ar52, q52, S52, NN52, HH52, GG52⟩ := id v46
  have hin52 : ¬ ((0 : Int32) < 0 ∨ cl52.slots.size ≤ ((0 : Int32)).toNatClampNeg) := inb_of S52 ⟨by decide, by decide⟩
  have hat52 : cl52.slots[((0 : Int32)).toNatClampNeg]? = some (.double y0) := Has.at HH52 hin52 rfl
  refine own_go (fun t k => X45.daload hx (j := (0 : Int32)) (v := (.double y0)) (by rw [e45]; exact Ar52.1) (State.isArrayOf_alike hZ.alike Ar52.2.1) Ar52.2.2 hin52 hat52 (g := (mkF m 96 #[.val (.ref a1), .val (.ref b17), .val (.ref b26), .val (.int (0 : Int32))] [(.int (0 : Int32)), (.ref b26)])) rfl rfl (hb hby dt1_96) _ k) ?_
  show own_G p.tables e below s _ _ _ (T45.setTop (mkF m 97 #[.val (.ref a1), .val (.ref b17), .val (.ref b26), .val (.int (0 : Int32))] [(.double y0)]))
  refine own_go (fun t k => XS.dconst1 X45.here hx rfl (hb hby dt1_97) rfl k) ?_
  show own_G p.tables e below s _ _ _ (T45.setTop (mkF m 98 #[.val (.ref a1), .val (.ref b17), .val (.ref b26), .val (.int (0 : Int32))] [(.double Jvm.FP.dconst1), (.double y0)]))
  refine own_go (fun t k => XS.dcmpS X45.here hx rfl (hb hby dt1_98) rfl (own_cmpv hy0 own_d1) k) ?_
  show own_G p.tables e below s _ _ _ (T45.setTop (mkF m 99 #[.val (.ref a1), .val (.ref b17), .val (.ref b26), .val (.int (0 : Int32))] [(.int (own_c (PY0) (8)))]))
  refine own_go (fun t k => XS.ifYes X45.here hx rfl (pc0 := 99) (pc' := 119) rfl (hb hby dt1_99) rfl (Jvm.Free.XT.i0_le_t (own_c_le hY0.2)) (by decide) (by decide) k) ?_
  show own_G p.tables e below s _ _ _ (T45.setTop (mkF m 119 #[.val (.ref a1), .val (.ref b17), .val (.ref b26), .val (.int (0 : Int32))] []))
  refine own_go (fun t k => XS.iinc X45.here hx rfl (hb hby dt1_119) rfl (l' := #[.val (.ref a1), .val (.ref b17), .val (.ref b26), .val (.int (1 : Int32))]) rfl k) ?_
  show own_G p.tables e below s _ _ _ (T45.setTop (mkF m 122 #[.val (.ref a1), .val (.ref b17), .val (.ref b26), .val (.int (1 : Int32))] []))
  refine own_go (fun t k => XS.goto X45.here hx rfl (pc0 := 122) (pc' := 46) rfl (hb hby dt1_122) (by decide) (by decide) k) ?_
  show own_G p.tables e below s _ _ _ (T45.setTop (mkF m 46 #[.val (.ref a1), .val (.ref b17), .val (.ref b26), .val (.int (1 : Int32))] []))
  refine own_go (fun t k => XS.iloadN X45.here hx rfl (hb hby dt1_46) rfl k) ?_
  show own_G p.tables e below s _ _ _ (T45.setTop (mkF m 47 #[.val (.ref a1), .val (.ref b17), .val (.ref b26), .val (.int (1 : Int32))] [(.int (1 : Int32))]))
  refine own_go (fun t k => XS.aloadN X45.here hx rfl (hb hby dt1_47) rfl rfl k) ?_
  show own_G p.tables e below s _ _ _ (T45.setTop (mkF m 48 #[.val (.ref a1), .val (.ref b17), .val (.ref b26), .val (.int (1 : Int32))] [(.ref b17), (.int (1 : Int32))]))
  obtain ⟨cl53, Ar53, q53, S53, NN53, HH53, GG53⟩ := id f48
  have hlen53 := len_of S53 NN53
  refine own_go (A := T45.setTop (mkF m 49 #[.val (.ref a1), .val (.ref b17), .val (.ref b26), .val (.int (1 : Int32))] [(.int (1 : Int32)), (.int (1 : Int32))])) (fun t k => X45.arraylength hx (by rw [e45]; exact Ar53.1) (State.isArrayOf_alike hZ.alike Ar53.2.1) (g := (mkF m 48 #[.val (.ref a1), .val (.ref b17), .val (.ref b26), .val (.int (1 : Int32))] [(.ref b17), (.int (1 : Int32))])) rfl rfl (hb hby dt1_48) _ (by rw [hlen53]; exact k)) ?_
  show own_G p.tables e below s _ _ _ (T45.setTop (mkF m 49 #[.val (.ref a1), .val (.ref b17), .val (.ref b26), .val (.int (1 : Int32))] [(.int (1 : Int32)), (.int (1 : Int32))]))
  refine own_go (fun t k => XS.icmpYes X45.here hx rfl (pc0 := 49) (pc' := 125) rfl (hb hby dt1_49) rfl (by decide) (by decide) (by decide) k) ?_
  show own_G p.tables e below s _ _ _ (T45.setTop (mkF m 125 #[.val (.ref a1), .val (.ref b17), .val (.ref b26), .val (.int (1 : Int32))] []))
  obtain ⟨T54, h54, X54, e54, E54, A54, D54, -, st54⟩ := newO X45 hx hZ hown (hw _ (List.mem_of_getElem? (i := 8) rfl)) (hw _ (List.mem_of_getElem? (i := 9) rfl)) (hw _ (List.mem_of_getElem? (i := 6) rfl)) e45 (g := (mkF m 125 #[.val (.ref a1), .val (.ref b17), .val (.ref b26), .val (.int (1 : Int32))] [])) rfl (hb hby dt1_125) (by decide) (by decide)
  obtain ⟨b54, g54⟩ : ∃ z, z = h45.size := ⟨_, rfl⟩
  rw [← g54] at A54 D54 st54
  refine own_go st54 ?_
  have g55 := Nat.le_trans z49 (Nat.le_of_eq g54.symm)
  have s56 := Nat.le_trans k50.1 (Nat.le_of_eq g54.symm)
  have n57 := Nat.ne_of_lt (Nat.lt_of_lt_of_le f47.lt (Nat.le_of_eq g54.symm))
  have n58 := Nat.ne_of_lt (Nat.lt_of_lt_of_le f48.lt (Nat.le_of_eq g54.symm))
  have n59 := Nat.ne_of_lt (Nat.lt_of_lt_of_le v46.lt (Nat.le_of_eq g54.symm))
  have f60 := f47.ext E54
  have f61 := f48.ext E54
  have f62 := v46.ext E54
  have z63 := Nat.le_trans z49 E54.1
  have k64 := k50.ext E54
  have f65 : Fld Z h54 b54 "com/example/options_into_arguments/optionsintoarguments/quality/Curve" "xs" "[D" .null := D54 (Or.inr (hw _ (List.mem_of_getElem? (i := 17) rfl))) (ty := (.array .double)) (by decide)
  have f66 : Fld Z h54 b54 "com/example/options_into_arguments/optionsintoarguments/quality/Curve" "ys" "[D" .null := D54 (Or.inr (hw _ (List.mem_of_getElem? (i := 19) rfl))) (ty := (.array .double)) (by decide)
  show own_G p.tables e below s _ _ _ (T54.setTop (mkF m 128 #[.val (.ref a1), .val (.ref b17), .val (.ref b26), .val (.int (1 : Int32))] [(.ref b54)]))
  refine own_go (fun t k => XS.dup X54.here hx rfl (hb hby dt1_128) rfl rfl k) ?_
  show own_G p.tables e below s _ _ _ (T54.setTop (mkF m 129 #[.val (.ref a1), .val (.ref b17), .val (.ref b26), .val (.int (1 : Int32))] [(.ref b54), (.ref b54)]))
  refine own_go (fun t k => XS.aloadN X54.here hx rfl (hb hby dt1_129) rfl rfl k) ?_
  show own_G p.tables e below s _ _ _ (T54.setTop (mkF m 130 #[.val (.ref a1), .val (.ref b17), .val (.ref b26), .val (.int (1 : Int32))] [(.ref b17), (.ref b54), (.ref b54)]))
  refine own_go (fun t k => XS.aloadN X54.here hx rfl (hb hby dt1_130) rfl rfl k) ?_
  show own_G p.tables e below s _ _ _ (T54.setTop (mkF m 131 #[.val (.ref a1), .val (.ref b17), .val (.ref b26), .val (.int (1 : Int32))] [(.ref b26), (.ref b17), (.ref b54), (.ref b54)]))
  obtain ⟨_, _, ⟨T67, L67, k67, n67⟩, -, X67, ⟨Lc67, hQ67, l67, y67, z67⟩, st67⟩ := X54.specialBack hx (y := (⟨"com/example/options_into_arguments/optionsintoarguments/quality/Curve", "<init>", "([D[D)V"⟩ : MethodName)) rfl hown (mvT hZ (hw _ (List.mem_of_getElem? (i := 10) rfl))) (mvT hZ (hw _ (List.mem_of_getElem? (i := 11) rfl))) (mvT hZ (hw _ (List.mem_of_getElem? (i := 12) rfl))) (by decide) (backOf (W := 1) (rmi l Z a0 hw [] b54 b17 b26 h54 n0 z63 A54 f65 f66 g55) hZ (hw _ (List.mem_of_getElem? (i := 12) rfl)) (hw _ (List.mem_of_getElem? (i := 6) rfl)) (by decide) (by decide)) (g := (mkF m 131 #[.val (.ref a1), .val (.ref b17), .val (.ref b26), .val (.int (1 : Int32))] [(.ref b26), (.ref b17), (.ref b54), (.ref b54)])) rfl (by rw [hml]; rfl) (Steps.refl _) (a := b54) (argsL := [(.ref b17), (.ref b26)]) (rest := [(.ref b54)]) (lenOf pd___D_D_V rfl) rfl (by show 2 * 0 + _ ≤ _; exact Nat.le_of_eq rfl) (hb hby dt1_131) (fun _ _ => ⟨rfl, e54, (by decide : 3 + 0 ≤ _), (by decide : 4 + 0 ≤ _)⟩)
  dsimp only [Pt.U, Pt.locs, Pt.cells, Pt.slots] at X67 l67 y67 z67 st67 hQ67
  subst l67 y67 z67
  obtain ⟨rfl, N67q, K67, Fx67, Fy67⟩ := hQ67
  have N67 := Fr.app N45 N67q
  refine own_go (fun t k => st67.trans k) ?_
  have f68 := f60.keep K67 (fun q => (List.mem_cons.mp q).elim n57 (fun q => nomatch q))
  have f69 := f61.keep K67 (fun q => (List.mem_cons.mp q).elim n58 (fun q => nomatch q))
  have f70 := f62.keep K67 (fun q => (List.mem_cons.mp q).elim n59 (fun q => nomatch q))
  have f71 := A54.keep K67
  have z72 := Nat.le_trans z63 K67.1
  have k73 := k64.trans K67 (fun x => (fun q => (List.mem_cons.mp q).elim (fun e => e ▸ Or.inr s56) (fun q => nomatch q)))
  show own_G p.tables e below s _ _ _ (T67.setTop (mkF m 134 #[.val (.ref a1), .val (.ref b17), .val (.ref b26), .val (.int (1 : Int32))] [(.ref b54)]))
  exact own_retA X67 hx hlk Bd.returns rfl rfl (hb hby dt1_134) (⟨⟨_, _, _, _, _, rfl, f71, Fx67, Fy67, f69, f70⟩, N67, k73⟩) (by decide) (by decide)
theorem dt2_0 : decode prog_17_method_2_code 0 = .ok (.aload_n 0, 1) := by decide +kernel
theorem dt2_1 : decode prog_17_method_2_code 1 = .ok (.arraylength, 1) := by decide +kernel
theorem dt2_2 : decode prog_17_method_2_code 2 = .ok (.iconst 2, 1) := by decide +kernel
theorem dt2_3 : decode prog_17_method_2_code 3 = .ok (.if_icmp .lt 10, 3) := by decide +kernel
theorem dt2_6 : decode prog_17_method_2_code 6 = .ok (.aload_n 0, 1) := by decide +kernel
theorem dt2_7 : decode prog_17_method_2_code 7 = .ok (.arraylength, 1) := by decide +kernel
theorem dt2_8 : decode prog_17_method_2_code 8 = .ok (.iconst 2, 1) := by decide +kernel
theorem dt2_9 : decode prog_17_method_2_code 9 = .ok (.irem, 1) := by decide +kernel
theorem dt2_10 : decode prog_17_method_2_code 10 = .ok (.ifCond .eq 20, 3) := by decide +kernel
theorem dt2_30 : decode prog_17_method_2_code 30 = .ok (.aload_n 0, 1) := by decide +kernel
theorem dt2_31 : decode prog_17_method_2_code 31 = .ok (.arraylength, 1) := by decide +kernel
theorem dt2_32 : decode prog_17_method_2_code 32 = .ok (.iconst 2, 1) := by decide +kernel
theorem dt2_33 : decode prog_17_method_2_code 33 = .ok (.idiv, 1) := by decide +kernel
theorem dt2_34 : decode prog_17_method_2_code 34 = .ok (.newarray .double, 2) := by decide +kernel
theorem dt2_36 : decode prog_17_method_2_code 36 = .ok (.astore_n 1, 1) := by decide +kernel
theorem dt2_37 : decode prog_17_method_2_code 37 = .ok (.aload_n 0, 1) := by decide +kernel
theorem dt2_38 : decode prog_17_method_2_code 38 = .ok (.arraylength, 1) := by decide +kernel
theorem dt2_39 : decode prog_17_method_2_code 39 = .ok (.iconst 2, 1) := by decide +kernel
theorem dt2_40 : decode prog_17_method_2_code 40 = .ok (.idiv, 1) := by decide +kernel
theorem dt2_41 : decode prog_17_method_2_code 41 = .ok (.newarray .double, 2) := by decide +kernel
theorem dt2_43 : decode prog_17_method_2_code 43 = .ok (.astore_n 2, 1) := by decide +kernel
theorem dt2_44 : decode prog_17_method_2_code 44 = .ok (.iconst 0, 1) := by decide +kernel
theorem dt2_45 : decode prog_17_method_2_code 45 = .ok (.istore_n 3, 1) := by decide +kernel
theorem dt2_46 : decode prog_17_method_2_code 46 = .ok (.iload_n 3, 1) := by decide +kernel
theorem dt2_47 : decode prog_17_method_2_code 47 = .ok (.aload_n 1, 1) := by decide +kernel
theorem dt2_48 : decode prog_17_method_2_code 48 = .ok (.arraylength, 1) := by decide +kernel
theorem dt2_49 : decode prog_17_method_2_code 49 = .ok (.if_icmp .ge 76, 3) := by decide +kernel
theorem dt2_52 : decode prog_17_method_2_code 52 = .ok (.aload_n 1, 1) := by decide +kernel
theorem dt2_53 : decode prog_17_method_2_code 53 = .ok (.iload_n 3, 1) := by decide +kernel
theorem dt2_54 : decode prog_17_method_2_code 54 = .ok (.aload_n 0, 1) := by decide +kernel
theorem dt2_55 : decode prog_17_method_2_code 55 = .ok (.iconst 2, 1) := by decide +kernel
theorem dt2_56 : decode prog_17_method_2_code 56 = .ok (.iload_n 3, 1) := by decide +kernel
theorem dt2_57 : decode prog_17_method_2_code 57 = .ok (.imul, 1) := by decide +kernel
theorem dt2_58 : decode prog_17_method_2_code 58 = .ok (.daload, 1) := by decide +kernel
theorem dt2_59 : decode prog_17_method_2_code 59 = .ok (.dastore, 1) := by decide +kernel
theorem dt2_60 : decode prog_17_method_2_code 60 = .ok (.aload_n 2, 1) := by decide +kernel
theorem dt2_61 : decode prog_17_method_2_code 61 = .ok (.iload_n 3, 1) := by decide +kernel
theorem dt2_62 : decode prog_17_method_2_code 62 = .ok (.aload_n 0, 1) := by decide +kernel
theorem dt2_63 : decode prog_17_method_2_code 63 = .ok (.iconst 2, 1) := by decide +kernel
theorem dt2_64 : decode prog_17_method_2_code 64 = .ok (.iload_n 3, 1) := by decide +kernel
theorem dt2_65 : decode prog_17_method_2_code 65 = .ok (.imul, 1) := by decide +kernel
theorem dt2_66 : decode prog_17_method_2_code 66 = .ok (.iconst 1, 1) := by decide +kernel
theorem dt2_67 : decode prog_17_method_2_code 67 = .ok (.iadd, 1) := by decide +kernel
theorem dt2_68 : decode prog_17_method_2_code 68 = .ok (.daload, 1) := by decide +kernel
theorem dt2_69 : decode prog_17_method_2_code 69 = .ok (.dastore, 1) := by decide +kernel
theorem dt2_70 : decode prog_17_method_2_code 70 = .ok (.iload_n 3, 1) := by decide +kernel
theorem dt2_71 : decode prog_17_method_2_code 71 = .ok (.ifCond .le 15, 3) := by decide +kernel
theorem dt2_86 : decode prog_17_method_2_code 86 = .ok (.aload_n 2, 1) := by decide +kernel
theorem dt2_87 : decode prog_17_method_2_code 87 = .ok (.iload_n 3, 1) := by decide +kernel
theorem dt2_88 : decode prog_17_method_2_code 88 = .ok (.daload, 1) := by decide +kernel
theorem dt2_89 : decode prog_17_method_2_code 89 = .ok (.dconst 0, 1) := by decide +kernel
theorem dt2_90 : decode prog_17_method_2_code 90 = .ok (.dcmp .l, 1) := by decide +kernel
theorem dt2_91 : decode prog_17_method_2_code 91 = .ok (.ifCond .lt 11, 3) := by decide +kernel
theorem dt2_94 : decode prog_17_method_2_code 94 = .ok (.aload_n 2, 1) := by decide +kernel
theorem dt2_95 : decode prog_17_method_2_code 95 = .ok (.iload_n 3, 1) := by decide +kernel
theorem dt2_96 : decode prog_17_method_2_code 96 = .ok (.daload, 1) := by decide +kernel
theorem dt2_97 : decode prog_17_method_2_code 97 = .ok (.dconst 1, 1) := by decide +kernel
theorem dt2_98 : decode prog_17_method_2_code 98 = .ok (.dcmp .g, 1) := by decide +kernel
theorem dt2_99 : decode prog_17_method_2_code 99 = .ok (.ifCond .le 20, 3) := by decide +kernel
theorem dt2_119 : decode prog_17_method_2_code 119 = .ok (.iinc 3 1, 3) := by decide +kernel
theorem dt2_122 : decode prog_17_method_2_code 122 = .ok (.goto (-76), 3) := by decide +kernel
theorem dt2_74 : decode prog_17_method_2_code 74 = .ok (.aload_n 1, 1) := by decide +kernel
theorem dt2_75 : decode prog_17_method_2_code 75 = .ok (.iload_n 3, 1) := by decide +kernel
theorem dt2_76 : decode prog_17_method_2_code 76 = .ok (.daload, 1) := by decide +kernel
theorem dt2_77 : decode prog_17_method_2_code 77 = .ok (.aload_n 1, 1) := by decide +kernel
theorem dt2_78 : decode prog_17_method_2_code 78 = .ok (.iload_n 3, 1) := by decide +kernel
theorem dt2_79 : decode prog_17_method_2_code 79 = .ok (.iconst 1, 1) := by decide +kernel
theorem dt2_80 : decode prog_17_method_2_code 80 = .ok (.isub, 1) := by decide +kernel
theorem dt2_81 : decode prog_17_method_2_code 81 = .ok (.daload, 1) := by decide +kernel
theorem dt2_82 : decode prog_17_method_2_code 82 = .ok (.dcmp .l, 1) := by decide +kernel
theorem dt2_83 : decode prog_17_method_2_code 83 = .ok (.ifCond .le 19, 3) := by decide +kernel
theorem dt2_125 : decode prog_17_method_2_code 125 = .ok (.new 8, 3) := by decide +kernel
theorem dt2_128 : decode prog_17_method_2_code 128 = .ok (.dup, 1) := by decide +kernel
theorem dt2_129 : decode prog_17_method_2_code 129 = .ok (.aload_n 1, 1) := by decide +kernel
theorem dt2_130 : decode prog_17_method_2_code 130 = .ok (.aload_n 2, 1) := by decide +kernel
theorem dt2_131 : decode prog_17_method_2_code 131 = .ok (.invokespecial 32, 3) := by decide +kernel
theorem dt2_134 : decode prog_17_method_2_code 134 = .ok (.areturn, 1) := by decide +kernel
theorem ef_t2 (m : MethodId) (x0 : Addr) : entryFrame m #[(.ref x0)] 4 = mkF m 0 #[.val (.ref x0), .unset, .unset, .unset] [] := by first | (simp [entryFrame, mkF, argsToLocals, Value.category]; done) | rfl
def Qt2 (Z : State) (a1 : Addr) (k1 : ClassId) (x0 y0 x1 y1 : UInt64) (PX0 PY0 PX1 PY1 : Int) (h0 : Heap) (n0 : Nat) (v : Option Value) (h : Heap) (L : List Loc) : Prop := (∃ (b xa ya : Addr) (kx ky : ClassId), v = some (.ref b) ∧ Exa Z h b "com/example/options_into_arguments/optionsintoarguments/quality/Curve" ∧ Fld Z h b "com/example/options_into_arguments/optionsintoarguments/quality/Curve" "xs" "[D" (.ref xa) ∧ Fld Z h b "com/example/options_into_arguments/optionsintoarguments/quality/Curve" "ys" "[D" (.ref ya) ∧ Arv Z h xa kx .double (2 : Int32) [(.double x0), (.double x1)] (.double 0) ∧ Arv Z h ya ky .double (2 : Int32) [(.double y0), (.double y1)] (.double 0)) ∧ Fr n0 L ∧ Keep h0 h []
set_option maxRecDepth 65536 in
set_option maxHeartbeats 40000000 in
theorem rmt2 (l : Launch) (Z : State) (a0 : Array Value) (hw : ∀ d ∈ tables_1, d.before a0 Z = true) (ws : List Jvm.Cond) (a1 : Addr) (k1 : ClassId) (x0 y0 x1 y1 : UInt64) (PX0 PY0 PX1 PY1 : Int) (h0 : Heap) (n0 : Nat) (Z0 : n0 ≤ h0.size) (V1 : Arv Z h0 a1 k1 .double (4 : Int32) [(.double x0), (.double y0), (.double x1), (.double y1)] (.double 0)) (hx0 : own_E PX0 x0) (hy0 : own_E PY0 y0) (hx1 : own_E PX1 x1) (hy1 : own_E PY1 y1) (hX1 : PX0 < PX1) (hY0 : 0 ≤ PY0 ∧ PY0 ≤ 8) (hY1 : 0 ≤ PY1 ∧ PY1 ≤ 8) :
    MetFree l (⟨"com/example/options_into_arguments/optionsintoarguments/quality/Curve", "through", "([D)Lcom/example/options_into_arguments/optionsintoarguments/quality/Curve;"⟩ : MethodName) (head1 (Jvm.Cond.code (⟨"com/example/options_into_arguments/optionsintoarguments/quality/Curve", "through", "([D)Lcom/example/options_into_arguments/optionsintoarguments/quality/Curve;"⟩ : MethodName) prog_17_method_2_code 4 (some (.object "com/example/options_into_arguments/optionsintoarguments/quality/Curve")) :: ws) ({ frames := 2, cells := 3, slots := 6, locals := 27 } : Room)) (fun a U => a = #[(.ref a1)] ∧ Z.Warmed39 U.vm ∧ U.heap = h0) (fun _ _ _ _ _ => True) (fun _ U o U' => ∃ v L, o = .returned v ∧ Qt2 Z a1 k1 x0 y0 x1 y1 PX0 PY0 PX1 PY1 h0 n0 v U'.heap L ∧ FrameEnd U o U' L ({ frames := 2, cells := 3, slots := 6, locals := 27 } : Room).cells ({ frames := 2, cells := 3, slots := 6, locals := 27 } : Room).slots) := by
  refine MetFree.of_bodySF (plainFor_of_name pn_com_example_options_into_arguments_optionsintoarguments_quality_Curve) hisR ?_
  intro p e s m args below meth c s₁ Bd hml0 hP hK
  obtain ⟨rfl, hZ, hh⟩ := hP
  have hx := Bd.exec
  have hby := Bd.bytes
  have hlk : meth.locks = false := BodyLoose.notSynchronized Bd
  have hml : c.maxLocals = 4 := hml0
  have hown : s.vm.findClass "com/example/options_into_arguments/optionsintoarguments/quality/Curve" = some m.cls := findClass_of_methodNamed Bd.named
  have hnm := (name_of_methodNamed Bd.named Bd.method).1
  have X0 : Stand p l e ({ frames := 2, cells := 3, slots := 6, locals := 27 } : Room) s m #[(.ref a1)] below meth c s₁ [] 0 0 := Stand.of_body Bd
  have e0 : s₁.heap = h0 := by rw [← hh, Bd.state]; rfl
  have N0 := Fr.nil n0
  show own_G p.tables e below s (Qt2 Z a1 k1 x0 y0 x1 y1 PX0 PY0 PX1 PY1 h0 n0) ({ frames := 2, cells := 3, slots := 6, locals := 27 } : Room).cells ({ frames := 2, cells := 3, slots := 6, locals := 27 } : Room).slots (s₁.setTop (entryFrame m #[(.ref a1)] 4))
  refine own_go (fun t k => castTop (ef_t2 m a1) k) ?_
  show own_G p.tables e below s _ _ _ (s₁.setTop (mkF m 0 #[.val (.ref a1), .unset, .unset, .unset] []))
  refine own_go (fun t k => XS.aloadN X0.here hx rfl (hb hby dt2_0) rfl rfl k) ?_
  show own_G p.tables e below s _ _ _ (s₁.setTop (mkF m 1 #[.val (.ref a1), .unset, .unset, .unset] [(.ref a1)]))
  obtain ⟨cl74, Ar74, q74, S74, NN74, HH74, GG74⟩ := id V1
  have hlen74 := len_of S74 NN74
  refine own_go (A := s₁.setTop (mkF m 2 #[.val (.ref a1), .unset, .unset, .unset] [(.int (4 : Int32))])) (fun t k => X0.arraylength hx (by rw [e0]; exact Ar74.1) (State.isArrayOf_alike hZ.alike Ar74.2.1) (g := (mkF m 1 #[.val (.ref a1), .unset, .unset, .unset] [(.ref a1)])) rfl rfl (hb hby dt2_1) _ (by rw [hlen74]; exact k)) ?_
  show own_G p.tables e below s _ _ _ (s₁.setTop (mkF m 2 #[.val (.ref a1), .unset, .unset, .unset] [(.int (4 : Int32))]))
  refine own_go (fun t k => XS.iconst X0.here hx rfl (hb hby dt2_2) k) ?_
  show own_G p.tables e below s _ _ _ (s₁.setTop (mkF m 3 #[.val (.ref a1), .unset, .unset, .unset] [(.int (2 : Int32)), (.int (4 : Int32))]))
  refine own_go (fun t k => XS.icmpNo X0.here hx rfl (hb hby dt2_3) rfl (by decide) k) ?_
  show own_G p.tables e below s _ _ _ (s₁.setTop (mkF m 6 #[.val (.ref a1), .unset, .unset, .unset] []))
  refine own_go (fun t k => XS.aloadN X0.here hx rfl (hb hby dt2_6) rfl rfl k) ?_
  show own_G p.tables e below s _ _ _ (s₁.setTop (mkF m 7 #[.val (.ref a1), .unset, .unset, .unset] [(.ref a1)]))
  obtain ⟨cl75, Ar75, q75, S75, NN75, HH75, GG75⟩ := id V1
  have hlen75 := len_of S75 NN75
  refine own_go (A := s₁.setTop (mkF m 8 #[.val (.ref a1), .unset, .unset, .unset] [(.int (4 : Int32))])) (fun t k => X0.arraylength hx (by rw [e0]; exact Ar75.1) (State.isArrayOf_alike hZ.alike Ar75.2.1) (g := (mkF m 7 #[.val (.ref a1), .unset, .unset, .unset] [(.ref a1)])) rfl rfl (hb hby dt2_7) _ (by rw [hlen75]; exact k)) ?_
  show own_G p.tables e below s _ _ _ (s₁.setTop (mkF m 8 #[.val (.ref a1), .unset, .unset, .unset] [(.int (4 : Int32))]))
  refine own_go (fun t k => XS.iconst X0.here hx rfl (hb hby dt2_8) k) ?_
  show own_G p.tables e below s _ _ _ (s₁.setTop (mkF m 9 #[.val (.ref a1), .unset, .unset, .unset] [(.int (2 : Int32)), (.int (4 : Int32))]))
  refine own_go (fun t k => iremM X0 hx rfl (hb hby dt2_9) rfl (by decide) k) ?_
  show own_G p.tables e below s _ _ _ (s₁.setTop (mkF m 10 #[.val (.ref a1), .unset, .unset, .unset] [(.int (0 : Int32))]))
  refine own_go (fun t k => XS.ifYes X0.here hx rfl (pc0 := 10) (pc' := 30) rfl (hb hby dt2_10) rfl (by decide) (by decide) (by decide) k) ?_
  show own_G p.tables e below s _ _ _ (s₁.setTop (mkF m 30 #[.val (.ref a1), .unset, .unset, .unset] []))
  refine own_go (fun t k => XS.aloadN X0.here hx rfl (hb hby dt2_30) rfl rfl k) ?_
  show own_G p.tables e below s _ _ _ (s₁.setTop (mkF m 31 #[.val (.ref a1), .unset, .unset, .unset] [(.ref a1)]))
  obtain ⟨cl76, Ar76, q76, S76, NN76, HH76, GG76⟩ := id V1
  have hlen76 := len_of S76 NN76
  refine own_go (A := s₁.setTop (mkF m 32 #[.val (.ref a1), .unset, .unset, .unset] [(.int (4 : Int32))])) (fun t k => X0.arraylength hx (by rw [e0]; exact Ar76.1) (State.isArrayOf_alike hZ.alike Ar76.2.1) (g := (mkF m 31 #[.val (.ref a1), .unset, .unset, .unset] [(.ref a1)])) rfl rfl (hb hby dt2_31) _ (by rw [hlen76]; exact k)) ?_
  show own_G p.tables e below s _ _ _ (s₁.setTop (mkF m 32 #[.val (.ref a1), .unset, .unset, .unset] [(.int (4 : Int32))]))
  refine own_go (fun t k => XS.iconst X0.here hx rfl (hb hby dt2_32) k) ?_
  show own_G p.tables e below s _ _ _ (s₁.setTop (mkF m 33 #[.val (.ref a1), .unset, .unset, .unset] [(.int (2 : Int32)), (.int (4 : Int32))]))
  refine own_go (fun t k => XS.idiv X0.here hx rfl (hb hby dt2_33) rfl (by decide) k) ?_
  show own_G p.tables e below s _ _ _ (s₁.setTop (mkF m 34 #[.val (.ref a1), .unset, .unset, .unset] [(.int (2 : Int32))]))
  obtain ⟨T77, h77, k77, X77, e77, E77, A77, st77⟩ := newP X0 hx hZ (hw _ (List.mem_of_getElem? (i := 3) rfl)) e0 (g := (mkF m 34 #[.val (.ref a1), .unset, .unset, .unset] [(.int (2 : Int32))])) rfl (hb hby dt2_34) rfl (by decide) (cap := 2) (by decide) (by decide) (by decide) (by decide)
  obtain ⟨b77, g77⟩ : ∃ z, z = h0.size := ⟨_, rfl⟩
  rw [← g77] at A77 st77
  refine own_go st77 ?_
  have g78 := Nat.le_trans Z0 (Nat.le_of_eq g77.symm)
  have s79 := Nat.le_trans (Keep.refl h0 []).1 (Nat.le_of_eq g77.symm)
  have n80 := Nat.ne_of_lt (Nat.lt_of_lt_of_le V1.lt (Nat.le_of_eq g77.symm))
  have f81 := V1.ext E77
  have z82 := Nat.le_trans Z0 E77.1
  have k83 := (Keep.refl h0 []).ext E77
  have v84 : Arv Z h77 b77 k77 .double (2 : Int32) [(.double 0), (.double 0)] (.double 0) := (Arv.new A77 (by decide)).pad (pad_rep [] (.double 0) 2)
  show own_G p.tables e below s _ _ _ (T77.setTop (mkF m 36 #[.val (.ref a1), .unset, .unset, .unset] [(.ref b77)]))
  refine own_go (fun t k => XS.astoreN X77.here hx rfl (hb hby dt2_36) rfl rfl (l' := #[.val (.ref a1), .val (.ref b77), .unset, .unset]) rfl k) ?_
  show own_G p.tables e below s _ _ _ (T77.setTop (mkF m 37 #[.val (.ref a1), .val (.ref b77), .unset, .unset] []))
  refine own_go (fun t k => XS.aloadN X77.here hx rfl (hb hby dt2_37) rfl rfl k) ?_
  show own_G p.tables e below s _ _ _ (T77.setTop (mkF m 38 #[.val (.ref a1), .val (.ref b77), .unset, .unset] [(.ref a1)]))
  obtain ⟨cl85, Ar85, q85, S85, NN85, HH85, GG85⟩ := id f81
  have hlen85 := len_of S85 NN85
  refine own_go (A := T77.setTop (mkF m 39 #[.val (.ref a1), .val (.ref b77), .unset, .unset] [(.int (4 : Int32))])) (fun t k => X77.arraylength hx (by rw [e77]; exact Ar85.1) (State.isArrayOf_alike hZ.alike Ar85.2.1) (g := (mkF m 38 #[.val (.ref a1), .val (.ref b77), .unset, .unset] [(.ref a1)])) rfl rfl (hb hby dt2_38) _ (by rw [hlen85]; exact k)) ?_
  show own_G p.tables e below s _ _ _ (T77.setTop (mkF m 39 #[.val (.ref a1), .val (.ref b77), .unset, .unset] [(.int (4 : Int32))]))
  refine own_go (fun t k => XS.iconst X77.here hx rfl (hb hby dt2_39) k) ?_
  show own_G p.tables e below s _ _ _ (T77.setTop (mkF m 40 #[.val (.ref a1), .val (.ref b77), .unset, .unset] [(.int (2 : Int32)), (.int (4 : Int32))]))
  refine own_go (fun t k => XS.idiv X77.here hx rfl (hb hby dt2_40) rfl (by decide) k) ?_
  show own_G p.tables e below s _ _ _ (T77.setTop (mkF m 41 #[.val (.ref a1), .val (.ref b77), .unset, .unset] [(.int (2 : Int32))]))
  obtain ⟨T86, h86, k86, X86, e86, E86, A86, st86⟩ := newP X77 hx hZ (hw _ (List.mem_of_getElem? (i := 3) rfl)) e77 (g := (mkF m 41 #[.val (.ref a1), .val (.ref b77), .unset, .unset] [(.int (2 : Int32))])) rfl (hb hby dt2_41) rfl (by decide) (cap := 2) (by decide) (by decide) (by decide) (by decide)
  obtain ⟨b86, g86⟩ : ∃ z, z = h77.size := ⟨_, rfl⟩
  rw [← g86] at A86 st86
  refine own_go st86 ?_
  have g87 := Nat.le_trans z82 (Nat.le_of_eq g86.symm)
  have s88 := Nat.le_trans k83.1 (Nat.le_of_eq g86.symm)
  have n89 := Nat.ne_of_lt (Nat.lt_of_lt_of_le f81.lt (Nat.le_of_eq g86.symm))
  have n90 := Nat.ne_of_lt (Nat.lt_of_lt_of_le v84.lt (Nat.le_of_eq g86.symm))
  have f91 := f81.ext E86
  have f92 := v84.ext E86
  have z93 := Nat.le_trans z82 E86.1
  have k94 := k83.ext E86
  have v95 : Arv Z h86 b86 k86 .double (2 : Int32) [(.double 0), (.double 0)] (.double 0) := (Arv.new A86 (by decide)).pad (pad_rep [] (.double 0) 2)
  show own_G p.tables e below s _ _ _ (T86.setTop (mkF m 43 #[.val (.ref a1), .val (.ref b77), .unset, .unset] [(.ref b86)]))
  refine own_go (fun t k => XS.astoreN X86.here hx rfl (hb hby dt2_43) rfl rfl (l' := #[.val (.ref a1), .val (.ref b77), .val (.ref b86), .unset]) rfl k) ?_
  show own_G p.tables e below s _ _ _ (T86.setTop (mkF m 44 #[.val (.ref a1), .val (.ref b77), .val (.ref b86), .unset] []))
  refine own_go (fun t k => XS.iconst X86.here hx rfl (hb hby dt2_44) k) ?_
  show own_G p.tables e below s _ _ _ (T86.setTop (mkF m 45 #[.val (.ref a1), .val (.ref b77), .val (.ref b86), .unset] [(.int (0 : Int32))]))
  refine own_go (fun t k => XS.istoreN X86.here hx rfl (hb hby dt2_45) rfl (l' := #[.val (.ref a1), .val (.ref b77), .val (.ref b86), .val (.int (0 : Int32))]) rfl k) ?_
  show own_G p.tables e below s _ _ _ (T86.setTop (mkF m 46 #[.val (.ref a1), .val (.ref b77), .val (.ref b86), .val (.int (0 : Int32))] []))
  refine own_go (fun t k => XS.iloadN X86.here hx rfl (hb hby dt2_46) rfl k) ?_
  show own_G p.tables e below s _ _ _ (T86.setTop (mkF m 47 #[.val (.ref a1), .val (.ref b77), .val (.ref b86), .val (.int (0 : Int32))] [(.int (0 : Int32))]))
  refine own_go (fun t k => XS.aloadN X86.here hx rfl (hb hby dt2_47) rfl rfl k) ?_
  show own_G p.tables e below s _ _ _ (T86.setTop (mkF m 48 #[.val (.ref a1), .val (.ref b77), .val (.ref b86), .val (.int (0 : Int32))] [(.ref b77), (.int (0 : Int32))]))
  obtain ⟨cl96, Ar96, q96, S96, NN96, HH96, GG96⟩ := id f92
  have hlen96 := len_of S96 NN96
  refine own_go (A := T86.setTop (mkF m 49 #[.val (.ref a1), .val (.ref b77), .val (.ref b86), .val (.int (0 : Int32))] [(.int (2 : Int32)), (.int (0 : Int32))])) (fun t k => X86.arraylength hx (by rw [e86]; exact Ar96.1) (State.isArrayOf_alike hZ.alike Ar96.2.1) (g := (mkF m 48 #[.val (.ref a1), .val (.ref b77), .val (.ref b86), .val (.int (0 : Int32))] [(.ref b77), (.int (0 : Int32))])) rfl rfl (hb hby dt2_48) _ (by rw [hlen96]; exact k)) ?_
  show own_G p.tables e below s _ _ _ (T86.setTop (mkF m 49 #[.val (.ref a1), .val (.ref b77), .val (.ref b86), .val (.int (0 : Int32))] [(.int (2 : Int32)), (.int (0 : Int32))]))
  refine own_go (fun t k => XS.icmpNo X86.here hx rfl (hb hby dt2_49) rfl (by decide) k) ?_
  show own_G p.tables e below s _ _ _ (T86.setTop (mkF m 52 #[.val (.ref a1), .val (.ref b77), .val (.ref b86), .val (.int (0 : Int32))] []))
  refine own_go (fun t k => XS.aloadN X86.here hx rfl (hb hby dt2_52) rfl rfl k) ?_
  show own_G p.tables e below s _ _ _ (T86.setTop (mkF m 53 #[.val (.ref a1), .val (.ref b77), .val (.ref b86), .val (.int (0 : Int32))] [(.ref b77)]))
  refine own_go (fun t k => XS.iloadN X86.here hx rfl (hb hby dt2_53) rfl k) ?_
  show own_G p.tables e below s _ _ _ (T86.setTop (mkF m 54 #[.val (.ref a1), .val (.ref b77), .val (.ref b86), .val (.int (0 : Int32))] [(.int (0 : Int32)), (.ref b77)]))
  refine own_go (fun t k => XS.aloadN X86.here hx rfl (hb hby dt2_54) rfl rfl k) ?_
  show own_G p.tables e below s _ _ _ (T86.setTop (mkF m 55 #[.val (.ref a1), .val (.ref b77), .val (.ref b86), .val (.int (0 : Int32))] [(.ref a1), (.int (0 : Int32)), (.ref b77)]))
  refine own_go (fun t k => XS.iconst X86.here hx rfl (hb hby dt2_55) k) ?_
  show own_G p.tables e below s _ _ _ (T86.setTop (mkF m 56 #[.val (.ref a1), .val (.ref b77), .val (.ref b86), .val (.int (0 : Int32))] [(.int (2 : Int32)), (.ref a1), (.int (0 : Int32)), (.ref b77)]))
  refine own_go (fun t k => XS.iloadN X86.here hx rfl (hb hby dt2_56) rfl k) ?_
  show own_G p.tables e below s _ _ _ (T86.setTop (mkF m 57 #[.val (.ref a1), .val (.ref b77), .val (.ref b86), .val (.int (0 : Int32))] [(.int (0 : Int32)), (.int (2 : Int32)), (.ref a1), (.int (0 : Int32)), (.ref b77)]))
  refine own_go (fun t k => XS.imul X86.here hx rfl (hb hby dt2_57) rfl k) ?_
  show own_G p.tables e below s _ _ _ (T86.setTop (mkF m 58 #[.val (.ref a1), .val (.ref b77), .val (.ref b86), .val (.int (0 : Int32))] [(.int (0 : Int32)), (.ref a1), (.int (0 : Int32)), (.ref b77)]))
  obtain ⟨cl97, Ar97, q97, S97, NN97, HH97, GG97⟩ := id f91
  have hin97 : ¬ ((0 : Int32) < 0 ∨ cl97.slots.size ≤ ((0 : Int32)).toNatClampNeg) := inb_of S97 ⟨by decide, by decide⟩
  have hat97 : cl97.slots[((0 : Int32)).toNatClampNeg]? = some (.double x0) := Has.at HH97 hin97 rfl
  refine own_go (fun t k => X86.daload hx (j := (0 : Int32)) (v := (.double x0)) (by rw [e86]; exact Ar97.1) (State.isArrayOf_alike hZ.alike Ar97.2.1) Ar97.2.2 hin97 hat97 (g := (mkF m 58 #[.val (.ref a1), .val (.ref b77), .val (.ref b86), .val (.int (0 : Int32))] [(.int (0 : Int32)), (.ref a1), (.int (0 : Int32)), (.ref b77)])) rfl rfl (hb hby dt2_58) _ k) ?_
  show own_G p.tables e below s _ _ _ (T86.setTop (mkF m 59 #[.val (.ref a1), .val (.ref b77), .val (.ref b86), .val (.int (0 : Int32))] [(.double x0), (.int (0 : Int32)), (.ref b77)]))
  obtain ⟨cl98, Ar98, q98, S98, NN98, HH98, GG98⟩ := f92
  have hin98 : ¬ ((0 : Int32) < 0 ∨ cl98.slots.size ≤ ((0 : Int32)).toNatClampNeg) := inb_of S98 ⟨by decide, by decide⟩
  obtain ⟨T98, h98, X98, e98, W98, st98⟩ := stD X86 hx hZ e86 Ar98 (j := (0 : Int32)) hin98 (g := (mkF m 59 #[.val (.ref a1), .val (.ref b77), .val (.ref b86), .val (.int (0 : Int32))] [(.double x0), (.int (0 : Int32)), (.ref b77)])) rfl rfl (hb hby dt2_59)
  refine own_go st98 ?_
  have v99 : Arv Z h98 b77 k77 .double (2 : Int32) [(.double x0), (.double 0)] (.double 0) := Arv.set Ar98 q98 S98 NN98 HH98 GG98 rfl W98 0 rfl (Nat.le_of_ble_eq_true rfl)
  have f100 := f91.other W98 n80
  have f101 := v95.other W98 (Ne.symm n90)
  have z102 := Nat.le_trans z93 (Keep.of_wr W98).1
  have k103 := k94.wr W98 (Or.inr s79)
  have N98 := Fr.snoc X98 N0 g78
  show own_G p.tables e below s _ _ _ (T98.setTop (mkF m 60 #[.val (.ref a1), .val (.ref b77), .val (.ref b86), .val (.int (0 : Int32))] []))
  refine own_go (fun t k => XS.aloadN X98.here hx rfl (hb hby dt2_60) rfl rfl k) ?_
  show own_G p.tables e below s _ _ _ (T98.setTop (mkF m 61 #[.val (.ref a1), .val (.ref b77), .val (.ref b86), .val (.int (0 : Int32))] [(.ref b86)]))
  refine own_go (fun t k => XS.iloadN X98.here hx rfl (hb hby dt2_61) rfl k) ?_
  show own_G p.tables e below s _ _ _ (T98.setTop (mkF m 62 #[.val (.ref a1), .val (.ref b77), .val (.ref b86), .val (.int (0 : Int32))] [(.int (0 : Int32)), (.ref b86)]))
  refine own_go (fun t k => XS.aloadN X98.here hx rfl (hb hby dt2_62) rfl rfl k) ?_
  show own_G p.tables e below s _ _ _ (T98.setTop (mkF m 63 #[.val (.ref a1), .val (.ref b77), .val (.ref b86), .val (.int (0 : Int32))] [(.ref a1), (.int (0 : Int32)), (.ref b86)]))
  refine own_go (fun t k => XS.iconst X98.here hx rfl (hb hby dt2_63) k) ?_
  show own_G p.tables e below s _ _ _ (T98.setTop (mkF m 64 #[.val (.ref a1), .val (.ref b77), .val (.ref b86), .val (.int (0 : Int32))] [(.int (2 : Int32)), (.ref a1), (.int (0 : Int32)), (.ref b86)]))
  refine own_go (fun t k => XS.iloadN X98.here hx rfl (hb hby dt2_64) rfl k) ?_
  show own_G p.tables e below s _ _ _ (T98.setTop (mkF m 65 #[.val (.ref a1), .val (.ref b77), .val (.ref b86), .val (.int (0 : Int32))] [(.int (0 : Int32)), (.int (2 : Int32)), (.ref a1), (.int (0 : Int32)), (.ref b86)]))
  refine own_go (fun t k => XS.imul X98.here hx rfl (hb hby dt2_65) rfl k) ?_
  show own_G p.tables e below s _ _ _ (T98.setTop (mkF m 66 #[.val (.ref a1), .val (.ref b77), .val (.ref b86), .val (.int (0 : Int32))] [(.int (0 : Int32)), (.ref a1), (.int (0 : Int32)), (.ref b86)]))
  refine own_go (fun t k => XS.iconst X98.here hx rfl (hb hby dt2_66) k) ?_
  show own_G p.tables e below s _ _ _ (T98.setTop (mkF m 67 #[.val (.ref a1), .val (.ref b77), .val (.ref b86), .val (.int (0 : Int32))] [(.int (1 : Int32)), (.int (0 : Int32)), (.ref a1), (.int (0 : Int32)), (.ref b86)]))
  refine own_go (fun t k => XS.iadd X98.here hx rfl (hb hby dt2_67) rfl k) ?_
  show own_G p.tables e below s _ _ _ (T98.setTop (mkF m 68 #[.val (.ref a1), .val (.ref b77), .val (.ref b86), .val (.int (0 : Int32))] [(.int (1 : Int32)), (.ref a1), (.int (0 : Int32)), (.ref b86)]))
  obtain ⟨cl104, Ar104, q104, S104, NN104, HH104, GG104⟩ := id f100
  have hin104 : ¬ ((1 : Int32) < 0 ∨ cl104.slots.size ≤ ((1 : Int32)).toNatClampNeg) := inb_of S104 ⟨by decide, by decide⟩
  have hat104 : cl104.slots[((1 : Int32)).toNatClampNeg]? = some (.double y0) := Has.at HH104 hin104 rfl
  refine own_go (fun t k => X98.daload hx (j := (1 : Int32)) (v := (.double y0)) (by rw [e98]; exact Ar104.1) (State.isArrayOf_alike hZ.alike Ar104.2.1) Ar104.2.2 hin104 hat104 (g := (mkF m 68 #[.val (.ref a1), .val (.ref b77), .val (.ref b86), .val (.int (0 : Int32))] [(.int (1 : Int32)), (.ref a1), (.int (0 : Int32)), (.ref b86)])) rfl rfl (hb hby dt2_68) _ k) ?_
  show own_G p.tables e below s _ _ _ (T98.setTop (mkF m 69 #[.val (.ref a1), .val (.ref b77), .val (.ref b86), .val (.int (0 : Int32))] [(.double y0), (.int (0 : Int32)), (.ref b86)]))
  obtain ⟨cl105, Ar105, q105, S105, NN105, HH105, GG105⟩ := f101
  have hin105 : ¬ ((0 : Int32) < 0 ∨ cl105.slots.size ≤ ((0 : Int32)).toNatClampNeg) := inb_of S105 ⟨by decide, by decide⟩
  obtain ⟨T105, h105, X105, e105, W105, st105⟩ := stD X98 hx hZ e98 Ar105 (j := (0 : Int32)) hin105 (g := (mkF m 69 #[.val (.ref a1), .val (.ref b77), .val (.ref b86), .val (.int (0 : Int32))] [(.double y0), (.int (0 : Int32)), (.ref b86)])) rfl rfl (hb hby dt2_69)
  refine own_go st105 ?_
  have v106 : Arv Z h105 b86 k86 .double (2 : Int32) [(.double y0), (.double 0)] (.double 0) := Arv.set Ar105 q105 S105 NN105 HH105 GG105 rfl W105 0 rfl (Nat.le_of_ble_eq_true rfl)
  have f107 := f100.other W105 n89
  have f108 := v99.other W105 n90
  have z109 := Nat.le_trans z102 (Keep.of_wr W105).1
  have k110 := k103.wr W105 (Or.inr s88)
  have N105 := Fr.snoc X105 N98 g87
  show own_G p.tables e below s _ _ _ (T105.setTop (mkF m 70 #[.val (.ref a1), .val (.ref b77), .val (.ref b86), .val (.int (0 : Int32))] []))
  refine own_go (fun t k => XS.iloadN X105.here hx rfl (hb hby dt2_70) rfl k) ?_
  show own_G p.tables e below s _ _ _ (T105.setTop (mkF m 71 #[.val (.ref a1), .val (.ref b77), .val (.ref b86), .val (.int (0 : Int32))] [(.int (0 : Int32))]))
  refine own_go (fun t k => XS.ifYes X105.here hx rfl (pc0 := 71) (pc' := 86) rfl (hb hby dt2_71) rfl (by decide) (by decide) (by decide) k) ?_
  show own_G p.tables e below s _ _ _ (T105.setTop (mkF m 86 #[.val (.ref a1), .val (.ref b77), .val (.ref b86), .val (.int (0 : Int32))] []))
  refine own_go (fun t k => XS.aloadN X105.here hx rfl (hb hby dt2_86) rfl rfl k) ?_
  show own_G p.tables e below s _ _ _ (T105.setTop (mkF m 87 #[.val (.ref a1), .val (.ref b77), .val (.ref b86), .val (.int (0 : Int32))] [(.ref b86)]))
  refine own_go (fun t k => XS.iloadN X105.here hx rfl (hb hby dt2_87) rfl k) ?_
  show own_G p.tables e below s _ _ _ (T105.setTop (mkF m 88 #[.val (.ref a1), .val (.ref b77), .val (.ref b86), .val (.int (0 : Int32))] [(.int (0 : Int32)), (.ref b86)]))
  obtain ⟨cl111, Ar111, q111, S111, NN111, HH111, GG111⟩ := id v106
  have hin111 : ¬ ((0 : Int32) < 0 ∨ cl111.slots.size ≤ ((0 : Int32)).toNatClampNeg) := inb_of S111 ⟨by decide, by decide⟩
  have hat111 : cl111.slots[((0 : Int32)).toNatClampNeg]? = some (.double y0) := Has.at HH111 hin111 rfl
  refine own_go (fun t k => X105.daload hx (j := (0 : Int32)) (v := (.double y0)) (by rw [e105]; exact Ar111.1) (State.isArrayOf_alike hZ.alike Ar111.2.1) Ar111.2.2 hin111 hat111 (g := (mkF m 88 #[.val (.ref a1), .val (.ref b77), .val (.ref b86), .val (.int (0 : Int32))] [(.int (0 : Int32)), (.ref b86)])) rfl rfl (hb hby dt2_88) _ k) ?_
  show own_G p.tables e below s _ _ _ (T105.setTop (mkF m 89 #[.val (.ref a1), .val (.ref b77), .val (.ref b86), .val (.int (0 : Int32))] [(.double y0)]))
  refine own_go (fun t k => XS.dconst0 X105.here hx rfl (hb hby dt2_89) rfl k) ?_
  show own_G p.tables e below s _ _ _ (T105.setTop (mkF m 90 #[.val (.ref a1), .val (.ref b77), .val (.ref b86), .val (.int (0 : Int32))] [(.double Jvm.FP.dconst0), (.double y0)]))
  refine own_go (fun t k => XS.dcmpS X105.here hx rfl (hb hby dt2_90) rfl (own_cmpv hy0 own_d0) k) ?_
  show own_G p.tables e below s _ _ _ (T105.setTop (mkF m 91 #[.val (.ref a1), .val (.ref b77), .val (.ref b86), .val (.int (0 : Int32))] [(.int (own_c (PY0) (0)))]))
  refine own_go (fun t k => XS.ifNo X105.here hx rfl (hb hby dt2_91) rfl (Jvm.Free.XT.i0_lt_f (own_c_ge hY0.1)) k) ?_
  show own_G p.tables e below s _ _ _ (T105.setTop (mkF m 94 #[.val (.ref a1), .val (.ref b77), .val (.ref b86), .val (.int (0 : Int32))] []))
  refine own_go (fun t k => XS.aloadN X105.here hx rfl (hb hby dt2_94) rfl rfl k) ?_
  show own_G p.tables e below s _ _ _ (T105.setTop (mkF m 95 #[.val (.ref a1), .val (.ref b77), .val (.ref b86), .val (.int (0 : Int32))] [(.ref b86)]))
  refine own_go (fun t k => XS.iloadN X105.here hx rfl (hb hby dt2_95) rfl k) ?_
  show own_G p.tables e below s _ _ _ (T105.setTop (mkF m 96 #[.val (.ref a1), .val (.ref b77), .val (.ref b86), .val (.int (0 : Int32))] [(.int (0 : Int32)), (.ref b86)]))
  obtain ⟨cl112, Ar112, q112, S112, NN112, HH112, GG112⟩ := id v106
  have hin112 : ¬ ((0 : Int32) < 0 ∨ cl112.slots.size ≤ ((0 : Int32)).toNatClampNeg) := inb_of S112 ⟨by decide, by decide⟩
  have hat112 : cl112.slots[((0 : Int32)).toNatClampNeg]? = some (.double y0) := Has.at HH112 hin112 rfl
  refine own_go (fun t k => X105.daload hx (j := (0 : Int32)) (v := (.double y0)) (by rw [e105]; exact Ar112.1) (State.isArrayOf_alike hZ.alike Ar112.2.1) Ar112.2.2 hin112 hat112 (g := (mkF m 96 #[.val (.ref a1), .val (.ref b77), .val (.ref b86), .val (.int (0 : Int32))] [(.int (0 : Int32)), (.ref b86)])) rfl rfl (hb hby dt2_96) _ k) ?_
  show own_G p.tables e below s _ _ _ (T105.setTop (mkF m 97 #[.val (.ref a1), .val (.ref b77), .val (.ref b86), .val (.int (0 : Int32))] [(.double y0)]))
  refine own_go (fun t k => XS.dconst1 X105.here hx rfl (hb hby dt2_97) rfl k) ?_
  show own_G p.tables e below s _ _ _ (T105.setTop (mkF m 98 #[.val (.ref a1), .val (.ref b77), .val (.ref b86), .val (.int (0 : Int32))] [(.double Jvm.FP.dconst1), (.double y0)]))
  refine own_go (fun t k => XS.dcmpS X105.here hx rfl (hb hby dt2_98) rfl (own_cmpv hy0 own_d1) k) ?_
  show own_G p.tables e below s _ _ _ (T105.setTop (mkF m 99 #[.val (.ref a1), .val (.ref b77), .val (.ref b86), .val (.int (0 : Int32))] [(.int (own_c (PY0) (8)))]))
  refine own_go (fun t k => XS.ifYes X105.here hx rfl (pc0 := 99) (pc' := 119) rfl (hb hby dt2_99) rfl (Jvm.Free.XT.i0_le_t (own_c_le hY0.2)) (by decide) (by decide) k) ?_
  show own_G p.tables e below s _ _ _ (T105.setTop (mkF m 119 #[.val (.ref a1), .val (.ref b77), .val (.ref b86), .val (.int (0 : Int32))] []))
  refine own_go (fun t k => XS.iinc X105.here hx rfl (hb hby dt2_119) rfl (l' := #[.val (.ref a1), .val (.ref b77), .val (.ref b86), .val (.int (1 : Int32))]) rfl k) ?_
  show own_G p.tables e below s _ _ _ (T105.setTop (mkF m 122 #[.val (.ref a1), .val (.ref b77), .val (.ref b86), .val (.int (1 : Int32))] []))
  refine own_go (fun t k => XS.goto X105.here hx rfl (pc0 := 122) (pc' := 46) rfl (hb hby dt2_122) (by decide) (by decide) k) ?_
  show own_G p.tables e below s _ _ _ (T105.setTop (mkF m 46 #[.val (.ref a1), .val (.ref b77), .val (.ref b86), .val (.int (1 : Int32))] []))
  refine own_go (fun t k => XS.iloadN X105.here hx rfl (hb hby dt2_46) rfl k) ?_
  show own_G p.tables e below s _ _ _ (T105.setTop (mkF m 47 #[.val (.ref a1), .val (.ref b77), .val (.ref b86), .val (.int (1 : Int32))] [(.int (1 : Int32))]))
  refine own_go (fun t k => XS.aloadN X105.here hx rfl (hb hby dt2_47) rfl rfl k) ?_
  show own_G p.tables e below s _ _ _ (T105.setTop (mkF m 48 #[.val (.ref a1), .val (.ref b77), .val (.ref b86), .val (.int (1 : Int32))] [(.ref b77), (.int (1 : Int32))]))
  obtain ⟨cl113, Ar113, q113, S113, NN113, HH113, GG113⟩ := id f108
  have hlen113 := len_of S113 NN113
  refine own_go (A := T105.setTop (mkF m 49 #[.val (.ref a1), .val (.ref b77), .val (.ref b86), .val (.int (1 : Int32))] [(.int (2 : Int32)), (.int (1 : Int32))])) (fun t k => X105.arraylength hx (by rw [e105]; exact Ar113.1) (State.isArrayOf_alike hZ.alike Ar113.2.1) (g := (mkF m 48 #[.val (.ref a1), .val (.ref b77), .val (.ref b86), .val (.int (1 : Int32))] [(.ref b77), (.int (1 : Int32))])) rfl rfl (hb hby dt2_48) _ (by rw [hlen113]; exact k)) ?_
  show own_G p.tables e below s _ _ _ (T105.setTop (mkF m 49 #[.val (.ref a1), .val (.ref b77), .val (.ref b86), .val (.int (1 : Int32))] [(.int (2 : Int32)), (.int (1 : Int32))]))
  refine own_go (fun t k => XS.icmpNo X105.here hx rfl (hb hby dt2_49) rfl (by decide) k) ?_
  show own_G p.tables e below s _ _ _ (T105.setTop (mkF m 52 #[.val (.ref a1), .val (.ref b77), .val (.ref b86), .val (.int (1 : Int32))] []))
  refine own_go (fun t k => XS.aloadN X105.here hx rfl (hb hby dt2_52) rfl rfl k) ?_
  show own_G p.tables e below s _ _ _ (T105.setTop (mkF m 53 #[.val (.ref a1), .val (.ref b77), .val (.ref b86), .val (.int (1 : Int32))] [(.ref b77)]))
  refine own_go (fun t k => XS.iloadN X105.here hx rfl (hb hby dt2_53) rfl k) ?_
  show own_G p.tables e below s _ _ _ (T105.setTop (mkF m 54 #[.val (.ref a1), .val (.ref b77), .val (.ref b86), .val (.int (1 : Int32))] [(.int (1 : Int32)), (.ref b77)]))
  refine own_go (fun t k => XS.aloadN X105.here hx rfl (hb hby dt2_54) rfl rfl k) ?_
  show own_G p.tables e below s _ _ _ (T105.setTop (mkF m 55 #[.val (.ref a1), .val (.ref b77), .val (.ref b86), .val (.int (1 : Int32))] [(.ref a1), (.int (1 : Int32)), (.ref b77)]))
  refine own_go (fun t k => XS.iconst X105.here hx rfl (hb hby dt2_55) k) ?_
  show own_G p.tables e below s _ _ _ (T105.setTop (mkF m 56 #[.val (.ref a1), .val (.ref b77), .val (.ref b86), .val (.int (1 : Int32))] [(.int (2 : Int32)), (.ref a1), (.int (1 : Int32)), (.ref b77)]))
  refine own_go (fun t k => XS.iloadN X105.here hx rfl (hb hby dt2_56) rfl k) ?_
  show own_G p.tables e below s _ _ _ (T105.setTop (mkF m 57 #[.val (.ref a1), .val (.ref b77), .val (.ref b86), .val (.int (1 : Int32))] [(.int (1 : Int32)), (.int (2 : Int32)), (.ref a1), (.int (1 : Int32)), (.ref b77)]))
  refine own_go (fun t k => XS.imul X105.here hx rfl (hb hby dt2_57) rfl k) ?_
  show own_G p.tables e below s _ _ _ (T105.setTop (mkF m 58 #[.val (.ref a1), .val (.ref b77), .val (.ref b86), .val (.int (1 : Int32))] [(.int (2 : Int32)), (.ref a1), (.int (1 : Int32)), (.ref b77)]))
  obtain ⟨cl114, Ar114, q114, S114, NN114, HH114, GG114⟩ := id f107
  have hin114 : ¬ ((2 : Int32) < 0 ∨ cl114.slots.size ≤ ((2 : Int32)).toNatClampNeg) := inb_of S114 ⟨by decide, by decide⟩
  have hat114 : cl114.slots[((2 : Int32)).toNatClampNeg]? = some (.double x1) := Has.at HH114 hin114 rfl
  refine own_go (fun t k => X105.daload hx (j := (2 : Int32)) (v := (.double x1)) (by rw [e105]; exact Ar114.1) (State.isArrayOf_alike hZ.alike Ar114.2.1) Ar114.2.2 hin114 hat114 (g := (mkF m 58 #[.val (.ref a1), .val (.ref b77), .val (.ref b86), .val (.int (1 : Int32))] [(.int (2 : Int32)), (.ref a1), (.int (1 : Int32)), (.ref b77)])) rfl rfl (hb hby dt2_58) _ k) ?_
  show own_G p.tables e below s _ _ _ (T105.setTop (mkF m 59 #[.val (.ref a1), .val (.ref b77), .val (.ref b86), .val (.int (1 : Int32))] [(.double x1), (.int (1 : Int32)), (.ref b77)]))
  obtain ⟨cl115, Ar115, q115, S115, NN115, HH115, GG115⟩ := f108
  have hin115 : ¬ ((1 : Int32) < 0 ∨ cl115.slots.size ≤ ((1 : Int32)).toNatClampNeg) := inb_of S115 ⟨by decide, by decide⟩
  obtain ⟨T115, h115, X115, e115, W115, st115⟩ := stD X105 hx hZ e105 Ar115 (j := (1 : Int32)) hin115 (g := (mkF m 59 #[.val (.ref a1), .val (.ref b77), .val (.ref b86), .val (.int (1 : Int32))] [(.double x1), (.int (1 : Int32)), (.ref b77)])) rfl rfl (hb hby dt2_59)
  refine own_go st115 ?_
  have v116 : Arv Z h115 b77 k77 .double (2 : Int32) [(.double x0), (.double x1)] (.double 0) := Arv.set Ar115 q115 S115 NN115 HH115 GG115 rfl W115 1 rfl (Nat.le_of_ble_eq_true rfl)
  have f117 := f107.other W115 n80
  have f118 := v106.other W115 (Ne.symm n90)
  have z119 := Nat.le_trans z109 (Keep.of_wr W115).1
  have k120 := k110.wr W115 (Or.inr s79)
  have N115 := Fr.snoc X115 N105 g78
  show own_G p.tables e below s _ _ _ (T115.setTop (mkF m 60 #[.val (.ref a1), .val (.ref b77), .val (.ref b86), .val (.int (1 : Int32))] []))
  refine own_go (fun t k => XS.aloadN X115.here hx rfl (hb hby dt2_60) rfl rfl k) ?_
  show own_G p.tables e below s _ _ _ (T115.setTop (mkF m 61 #[.val (.ref a1), .val (.ref b77), .val (.ref b86), .val (.int (1 : Int32))] [(.ref b86)]))
  refine own_go (fun t k => XS.iloadN X115.here hx rfl (hb hby dt2_61) rfl k) ?_
  show own_G p.tables e below s _ _ _ (T115.setTop (mkF m 62 #[.val (.ref a1), .val (.ref b77), .val (.ref b86), .val (.int (1 : Int32))] [(.int (1 : Int32)), (.ref b86)]))
  refine own_go (fun t k => XS.aloadN X115.here hx rfl (hb hby dt2_62) rfl rfl k) ?_
  show own_G p.tables e below s _ _ _ (T115.setTop (mkF m 63 #[.val (.ref a1), .val (.ref b77), .val (.ref b86), .val (.int (1 : Int32))] [(.ref a1), (.int (1 : Int32)), (.ref b86)]))
  refine own_go (fun t k => XS.iconst X115.here hx rfl (hb hby dt2_63) k) ?_
  show own_G p.tables e below s _ _ _ (T115.setTop (mkF m 64 #[.val (.ref a1), .val (.ref b77), .val (.ref b86), .val (.int (1 : Int32))] [(.int (2 : Int32)), (.ref a1), (.int (1 : Int32)), (.ref b86)]))
  refine own_go (fun t k => XS.iloadN X115.here hx rfl (hb hby dt2_64) rfl k) ?_
  show own_G p.tables e below s _ _ _ (T115.setTop (mkF m 65 #[.val (.ref a1), .val (.ref b77), .val (.ref b86), .val (.int (1 : Int32))] [(.int (1 : Int32)), (.int (2 : Int32)), (.ref a1), (.int (1 : Int32)), (.ref b86)]))
  refine own_go (fun t k => XS.imul X115.here hx rfl (hb hby dt2_65) rfl k) ?_
  show own_G p.tables e below s _ _ _ (T115.setTop (mkF m 66 #[.val (.ref a1), .val (.ref b77), .val (.ref b86), .val (.int (1 : Int32))] [(.int (2 : Int32)), (.ref a1), (.int (1 : Int32)), (.ref b86)]))
  refine own_go (fun t k => XS.iconst X115.here hx rfl (hb hby dt2_66) k) ?_
  show own_G p.tables e below s _ _ _ (T115.setTop (mkF m 67 #[.val (.ref a1), .val (.ref b77), .val (.ref b86), .val (.int (1 : Int32))] [(.int (1 : Int32)), (.int (2 : Int32)), (.ref a1), (.int (1 : Int32)), (.ref b86)]))
  refine own_go (fun t k => XS.iadd X115.here hx rfl (hb hby dt2_67) rfl k) ?_
  show own_G p.tables e below s _ _ _ (T115.setTop (mkF m 68 #[.val (.ref a1), .val (.ref b77), .val (.ref b86), .val (.int (1 : Int32))] [(.int (3 : Int32)), (.ref a1), (.int (1 : Int32)), (.ref b86)]))
  obtain ⟨cl121, Ar121, q121, S121, NN121, HH121, GG121⟩ := id f117
  have hin121 : ¬ ((3 : Int32) < 0 ∨ cl121.slots.size ≤ ((3 : Int32)).toNatClampNeg) := inb_of S121 ⟨by decide, by decide⟩
  have hat121 : cl121.slots[((3 : Int32)).toNatClampNeg]? = some (.double y1) := Has.at HH121 hin121 rfl
  refine own_go (fun t k => X115.daload hx (j := (3 : Int32)) (v := (.double y1)) (by rw [e115]; exact Ar121.1) (State.isArrayOf_alike hZ.alike Ar121.2.1) Ar121.2.2 hin121 hat121 (g := (mkF m 68 #[.val (.ref a1), .val (.ref b77), .val (.ref b86), .val (.int (1 : Int32))] [(.int (3 : Int32)), (.ref a1), (.int (1 : Int32)), (.ref b86)])) rfl rfl (hb hby dt2_68) _ k) ?_
  show own_G p.tables e below s _ _ _ (T115.setTop (mkF m 69 #[.val (.ref a1), .val (.ref b77), .val (.ref b86), .val (.int (1 : Int32))] [(.double y1), (.int (1 : Int32)), (.ref b86)]))
  obtain ⟨cl122, Ar122, q122, S122, NN122, HH122, GG122⟩ := f118
  have hin122 : ¬ ((1 : Int32) < 0 ∨ cl122.slots.size ≤ ((1 : Int32)).toNatClampNeg) := inb_of S122 ⟨by decide, by decide⟩
  obtain ⟨T122, h122, X122, e122, W122, st122⟩ := stD X115 hx hZ e115 Ar122 (j := (1 : Int32)) hin122 (g := (mkF m 69 #[.val (.ref a1), .val (.ref b77), .val (.ref b86), .val (.int (1 : Int32))] [(.double y1), (.int (1 : Int32)), (.ref b86)])) rfl rfl (hb hby dt2_69)
  refine own_go st122 ?_
  have v123 : Arv Z h122 b86 k86 .double (2 : Int32) [(.double y0), (.double y1)] (.double 0) := Arv.set Ar122 q122 S122 NN122 HH122 GG122 rfl W122 1 rfl (Nat.le_of_ble_eq_true rfl)
  have f124 := f117.other W122 n89
  have f125 := v116.other W122 n90
  have z126 := Nat.le_trans z119 (Keep.of_wr W122).1
  have k127 := k120.wr W122 (Or.inr s88)
  have N122 := Fr.snoc X122 N115 g87
  show own_G p.tables e below s _ _ _ (T122.setTop (mkF m 70 #[.val (.ref a1), .val (.ref b77), .val (.ref b86), .val (.int (1 : Int32))] []))
  refine own_go (fun t k => XS.iloadN X122.here hx rfl (hb hby dt2_70) rfl k) ?_
  show own_G p.tables e below s _ _ _ (T122.setTop (mkF m 71 #[.val (.ref a1), .val (.ref b77), .val (.ref b86), .val (.int (1 : Int32))] [(.int (1 : Int32))]))
  refine own_go (fun t k => XS.ifNo X122.here hx rfl (hb hby dt2_71) rfl (by decide) k) ?_
  show own_G p.tables e below s _ _ _ (T122.setTop (mkF m 74 #[.val (.ref a1), .val (.ref b77), .val (.ref b86), .val (.int (1 : Int32))] []))
  refine own_go (fun t k => XS.aloadN X122.here hx rfl (hb hby dt2_74) rfl rfl k) ?_
  show own_G p.tables e below s _ _ _ (T122.setTop (mkF m 75 #[.val (.ref a1), .val (.ref b77), .val (.ref b86), .val (.int (1 : Int32))] [(.ref b77)]))
  refine own_go (fun t k => XS.iloadN X122.here hx rfl (hb hby dt2_75) rfl k) ?_
  show own_G p.tables e below s _ _ _ (T122.setTop (mkF m 76 #[.val (.ref a1), .val (.ref b77), .val (.ref b86), .val (.int (1 : Int32))] [(.int (1 : Int32)), (.ref b77)]))
  obtain ⟨cl128, Ar128, q128, S128, NN128, HH128, GG128⟩ := id f125
  have hin128 : ¬ ((1 : Int32) < 0 ∨ cl128.slots.size ≤ ((1 : Int32)).toNatClampNeg) := inb_of S128 ⟨by decide, by decide⟩
  have hat128 : cl128.slots[((1 : Int32)).toNatClampNeg]? = some (.double x1) := Has.at HH128 hin128 rfl
  refine own_go (fun t k => X122.daload hx (j := (1 : Int32)) (v := (.double x1)) (by rw [e122]; exact Ar128.1) (State.isArrayOf_alike hZ.alike Ar128.2.1) Ar128.2.2 hin128 hat128 (g := (mkF m 76 #[.val (.ref a1), .val (.ref b77), .val (.ref b86), .val (.int (1 : Int32))] [(.int (1 : Int32)), (.ref b77)])) rfl rfl (hb hby dt2_76) _ k) ?_
  show own_G p.tables e below s _ _ _ (T122.setTop (mkF m 77 #[.val (.ref a1), .val (.ref b77), .val (.ref b86), .val (.int (1 : Int32))] [(.double x1)]))
  refine own_go (fun t k => XS.aloadN X122.here hx rfl (hb hby dt2_77) rfl rfl k) ?_
  show own_G p.tables e below s _ _ _ (T122.setTop (mkF m 78 #[.val (.ref a1), .val (.ref b77), .val (.ref b86), .val (.int (1 : Int32))] [(.ref b77), (.double x1)]))
  refine own_go (fun t k => XS.iloadN X122.here hx rfl (hb hby dt2_78) rfl k) ?_
  show own_G p.tables e below s _ _ _ (T122.setTop (mkF m 79 #[.val (.ref a1), .val (.ref b77), .val (.ref b86), .val (.int (1 : Int32))] [(.int (1 : Int32)), (.ref b77), (.double x1)]))
  refine own_go (fun t k => XS.iconst X122.here hx rfl (hb hby dt2_79) k) ?_
  show own_G p.tables e below s _ _ _ (T122.setTop (mkF m 80 #[.val (.ref a1), .val (.ref b77), .val (.ref b86), .val (.int (1 : Int32))] [(.int (1 : Int32)), (.int (1 : Int32)), (.ref b77), (.double x1)]))
  refine own_go (fun t k => XS.isub X122.here hx rfl (hb hby dt2_80) rfl k) ?_
  show own_G p.tables e below s _ _ _ (T122.setTop (mkF m 81 #[.val (.ref a1), .val (.ref b77), .val (.ref b86), .val (.int (1 : Int32))] [(.int (0 : Int32)), (.ref b77), (.double x1)]))
  obtain ⟨cl129, Ar129, q129, S129, NN129, HH129, GG129⟩ := id f125
  have hin129 : ¬ ((0 : Int32) < 0 ∨ cl129.slots.size ≤ ((0 : Int32)).toNatClampNeg) := inb_of S129 ⟨by decide, by decide⟩
  have hat129 : cl129.slots[((0 : Int32)).toNatClampNeg]? = some (.double x0) := Has.at HH129 hin129 rfl
  refine own_go (fun t k => X122.daload hx (j := (0 : Int32)) (v := (.double x0)) (by rw [e122]; exact Ar129.1) (State.isArrayOf_alike hZ.alike Ar129.2.1) Ar129.2.2 hin129 hat129 (g := (mkF m 81 #[.val (.ref a1), .val (.ref b77), .val (.ref b86), .val (.int (1 : Int32))] [(.int (0 : Int32)), (.ref b77), (.double x1)])) rfl rfl (hb hby dt2_81) _ k) ?_
  show own_G p.tables e below s _ _ _ (T122.setTop (mkF m 82 #[.val (.ref a1), .val (.ref b77), .val (.ref b86), .val (.int (1 : Int32))] [(.double x0), (.double x1)]))
  refine own_go (fun t k => XS.dcmpS X122.here hx rfl (hb hby dt2_82) rfl (own_cmpv hx1 hx0) k) ?_
  show own_G p.tables e below s _ _ _ (T122.setTop (mkF m 83 #[.val (.ref a1), .val (.ref b77), .val (.ref b86), .val (.int (1 : Int32))] [(.int (own_c (PX1) (PX0)))]))
  refine own_go (fun t k => XS.ifNo X122.here hx rfl (hb hby dt2_83) rfl (Jvm.Free.XT.i0_le_f (own_c_gt hX1)) k) ?_
  show own_G p.tables e below s _ _ _ (T122.setTop (mkF m 86 #[.val (.ref a1), .val (.ref b77), .val (.ref b86), .val (.int (1 : Int32))] []))
  refine own_go (fun t k => XS.aloadN X122.here hx rfl (hb hby dt2_86) rfl rfl k) ?_
  show own_G p.tables e below s _ _ _ (T122.setTop (mkF m 87 #[.val (.ref a1), .val (.ref b77), .val (.ref b86), .val (.int (1 : Int32))] [(.ref b86)]))
  refine own_go (fun t k => XS.iloadN X122.here hx rfl (hb hby dt2_87) rfl k) ?_
  show own_G p.tables e below s _ _ _ (T122.setTop (mkF m 88 #[.val (.ref a1), .val (.ref b77), .val (.ref b86), .val (.int (1 : Int32))] [(.int (1 : Int32)), (.ref b86)]))
  obtain ⟨cl130, Ar130, q130, S130, NN130, HH130, GG130⟩ := id v123
  have hin130 : ¬ ((1 : Int32) < 0 ∨ cl130.slots.size ≤ ((1 : Int32)).toNatClampNeg) := inb_of S130 ⟨by decide, by decide⟩
  have hat130 : cl130.slots[((1 : Int32)).toNatClampNeg]? = some (.double y1) := Has.at HH130 hin130 rfl
  refine own_go (fun t k => X122.daload hx (j := (1 : Int32)) (v := (.double y1)) (by rw [e122]; exact Ar130.1) (State.isArrayOf_alike hZ.alike Ar130.2.1) Ar130.2.2 hin130 hat130 (g := (mkF m 88 #[.val (.ref a1), .val (.ref b77), .val (.ref b86), .val (.int (1 : Int32))] [(.int (1 : Int32)), (.ref b86)])) rfl rfl (hb hby dt2_88) _ k) ?_
  show own_G p.tables e below s _ _ _ (T122.setTop (mkF m 89 #[.val (.ref a1), .val (.ref b77), .val (.ref b86), .val (.int (1 : Int32))] [(.double y1)]))
  refine own_go (fun t k => XS.dconst0 X122.here hx rfl (hb hby dt2_89) rfl k) ?_
  show own_G p.tables e below s _ _ _ (T122.setTop (mkF m 90 #[.val (.ref a1), .val (.ref b77), .val (.ref b86), .val (.int (1 : Int32))] [(.double Jvm.FP.dconst0), (.double y1)]))
  refine own_go (fun t k => XS.dcmpS X122.here hx rfl (hb hby dt2_90) rfl (own_cmpv hy1 own_d0) k) ?_
  show own_G p.tables e below s _ _ _ (T122.setTop (mkF m 91 #[.val (.ref a1), .val (.ref b77), .val (.ref b86), .val (.int (1 : Int32))] [(.int (own_c (PY1) (0)))]))
  refine own_go (fun t k => XS.ifNo X122.here hx rfl (hb hby dt2_91) rfl (Jvm.Free.XT.i0_lt_f (own_c_ge hY1.1)) k) ?_
  show own_G p.tables e below s _ _ _ (T122.setTop (mkF m 94 #[.val (.ref a1), .val (.ref b77), .val (.ref b86), .val (.int (1 : Int32))] []))
  refine own_go (fun t k => XS.aloadN X122.here hx rfl (hb hby dt2_94) rfl rfl k) ?_
  show own_G p.tables e below s _ _ _ (T122.setTop (mkF m 95 #[.val (.ref a1), .val (.ref b77), .val (.ref b86), .val (.int (1 : Int32))] [(.ref b86)]))
  refine own_go (fun t k => XS.iloadN X122.here hx rfl (hb hby dt2_95) rfl k) ?_
  show own_G p.tables e below s _ _ _ (T122.setTop (mkF m 96 #[.val (.ref a1), .val (.ref b77), .val (.ref b86), .val (.int (1 : Int32))] [(.int (1 : Int32)), (.ref b86)]))
  obtain ⟨cl131, Ar131, q131, S131, NN131, HH131, GG131⟩ := id v123
  have hin131 : ¬ ((1 : Int32) < 0 ∨ cl131.slots.size ≤ ((1 : Int32)).toNatClampNeg) := inb_of S131 ⟨by decide, by decide⟩
  have hat131 : cl131.slots[((1 : Int32)).toNatClampNeg]? = some (.double y1) := Has.at HH131 hin131 rfl
  refine own_go (fun t k => X122.daload hx (j := (1 : Int32)) (v := (.double y1)) (by rw [e122]; exact Ar131.1) (State.isArrayOf_alike hZ.alike Ar131.2.1) Ar131.2.2 hin131 hat131 (g := (mkF m 96 #[.val (.ref a1), .val (.ref b77), .val (.ref b86), .val (.int (1 : Int32))] [(.int (1 : Int32)), (.ref b86)])) rfl rfl (hb hby dt2_96) _ k) ?_
  show own_G p.tables e below s _ _ _ (T122.setTop (mkF m 97 #[.val (.ref a1), .val (.ref b77), .val (.ref b86), .val (.int (1 : Int32))] [(.double y1)]))
  refine own_go (fun t k => XS.dconst1 X122.here hx rfl (hb hby dt2_97) rfl k) ?_
  show own_G p.tables e below s _ _ _ (T122.setTop (mkF m 98 #[.val (.ref a1), .val (.ref b77), .val (.ref b86), .val (.int (1 : Int32))] [(.double Jvm.FP.dconst1), (.double y1)]))
  refine own_go (fun t k => XS.dcmpS X122.here hx rfl (hb hby dt2_98) rfl (own_cmpv hy1 own_d1) k) ?_
  show own_G p.tables e below s _ _ _ (T122.setTop (mkF m 99 #[.val (.ref a1), .val (.ref b77), .val (.ref b86), .val (.int (1 : Int32))] [(.int (own_c (PY1) (8)))]))
  refine own_go (fun t k => XS.ifYes X122.here hx rfl (pc0 := 99) (pc' := 119) rfl (hb hby dt2_99) rfl (Jvm.Free.XT.i0_le_t (own_c_le hY1.2)) (by decide) (by decide) k) ?_
  show own_G p.tables e below s _ _ _ (T122.setTop (mkF m 119 #[.val (.ref a1), .val (.ref b77), .val (.ref b86), .val (.int (1 : Int32))] []))
  refine own_go (fun t k => XS.iinc X122.here hx rfl (hb hby dt2_119) rfl (l' := #[.val (.ref a1), .val (.ref b77), .val (.ref b86), .val (.int (2 : Int32))]) rfl k) ?_
  show own_G p.tables e below s _ _ _ (T122.setTop (mkF m 122 #[.val (.ref a1), .val (.ref b77), .val (.ref b86), .val (.int (2 : Int32))] []))
  refine own_go (fun t k => XS.goto X122.here hx rfl (pc0 := 122) (pc' := 46) rfl (hb hby dt2_122) (by decide) (by decide) k) ?_
  show own_G p.tables e below s _ _ _ (T122.setTop (mkF m 46 #[.val (.ref a1), .val (.ref b77), .val (.ref b86), .val (.int (2 : Int32))] []))
  refine own_go (fun t k => XS.iloadN X122.here hx rfl (hb hby dt2_46) rfl k) ?_
  show own_G p.tables e below s _ _ _ (T122.setTop (mkF m 47 #[.val (.ref a1), .val (.ref b77), .val (.ref b86), .val (.int (2 : Int32))] [(.int (2 : Int32))]))
  refine own_go (fun t k => XS.aloadN X122.here hx rfl (hb hby dt2_47) rfl rfl k) ?_
  show own_G p.tables e below s _ _ _ (T122.setTop (mkF m 48 #[.val (.ref a1), .val (.ref b77), .val (.ref b86), .val (.int (2 : Int32))] [(.ref b77), (.int (2 : Int32))]))
  obtain ⟨cl132, Ar132, q132, S132, NN132, HH132, GG132⟩ := id f125
  have hlen132 := len_of S132 NN132
  refine own_go (A := T122.setTop (mkF m 49 #[.val (.ref a1), .val (.ref b77), .val (.ref b86), .val (.int (2 : Int32))] [(.int (2 : Int32)), (.int (2 : Int32))])) (fun t k => X122.arraylength hx (by rw [e122]; exact Ar132.1) (State.isArrayOf_alike hZ.alike Ar132.2.1) (g := (mkF m 48 #[.val (.ref a1), .val (.ref b77), .val (.ref b86), .val (.int (2 : Int32))] [(.ref b77), (.int (2 : Int32))])) rfl rfl (hb hby dt2_48) _ (by rw [hlen132]; exact k)) ?_
  show own_G p.tables e below s _ _ _ (T122.setTop (mkF m 49 #[.val (.ref a1), .val (.ref b77), .val (.ref b86), .val (.int (2 : Int32))] [(.int (2 : Int32)), (.int (2 : Int32))]))
  refine own_go (fun t k => XS.icmpYes X122.here hx rfl (pc0 := 49) (pc' := 125) rfl (hb hby dt2_49) rfl (by decide) (by decide) (by decide) k) ?_
  show own_G p.tables e below s _ _ _ (T122.setTop (mkF m 125 #[.val (.ref a1), .val (.ref b77), .val (.ref b86), .val (.int (2 : Int32))] []))
  obtain ⟨T133, h133, X133, e133, E133, A133, D133, -, st133⟩ := newO X122 hx hZ hown (hw _ (List.mem_of_getElem? (i := 8) rfl)) (hw _ (List.mem_of_getElem? (i := 9) rfl)) (hw _ (List.mem_of_getElem? (i := 6) rfl)) e122 (g := (mkF m 125 #[.val (.ref a1), .val (.ref b77), .val (.ref b86), .val (.int (2 : Int32))] [])) rfl (hb hby dt2_125) (by decide) (by decide)
  obtain ⟨b133, g133⟩ : ∃ z, z = h122.size := ⟨_, rfl⟩
  rw [← g133] at A133 D133 st133
  refine own_go st133 ?_
  have g134 := Nat.le_trans z126 (Nat.le_of_eq g133.symm)
  have s135 := Nat.le_trans k127.1 (Nat.le_of_eq g133.symm)
  have n136 := Nat.ne_of_lt (Nat.lt_of_lt_of_le f124.lt (Nat.le_of_eq g133.symm))
  have n137 := Nat.ne_of_lt (Nat.lt_of_lt_of_le f125.lt (Nat.le_of_eq g133.symm))
  have n138 := Nat.ne_of_lt (Nat.lt_of_lt_of_le v123.lt (Nat.le_of_eq g133.symm))
  have f139 := f124.ext E133
  have f140 := f125.ext E133
  have f141 := v123.ext E133
  have z142 := Nat.le_trans z126 E133.1
  have k143 := k127.ext E133
  have f144 : Fld Z h133 b133 "com/example/options_into_arguments/optionsintoarguments/quality/Curve" "xs" "[D" .null := D133 (Or.inr (hw _ (List.mem_of_getElem? (i := 17) rfl))) (ty := (.array .double)) (by decide)
  have f145 : Fld Z h133 b133 "com/example/options_into_arguments/optionsintoarguments/quality/Curve" "ys" "[D" .null := D133 (Or.inr (hw _ (List.mem_of_getElem? (i := 19) rfl))) (ty := (.array .double)) (by decide)
  show own_G p.tables e below s _ _ _ (T133.setTop (mkF m 128 #[.val (.ref a1), .val (.ref b77), .val (.ref b86), .val (.int (2 : Int32))] [(.ref b133)]))
  refine own_go (fun t k => XS.dup X133.here hx rfl (hb hby dt2_128) rfl rfl k) ?_
  show own_G p.tables e below s _ _ _ (T133.setTop (mkF m 129 #[.val (.ref a1), .val (.ref b77), .val (.ref b86), .val (.int (2 : Int32))] [(.ref b133), (.ref b133)]))
  refine own_go (fun t k => XS.aloadN X133.here hx rfl (hb hby dt2_129) rfl rfl k) ?_
  show own_G p.tables e below s _ _ _ (T133.setTop (mkF m 130 #[.val (.ref a1), .val (.ref b77), .val (.ref b86), .val (.int (2 : Int32))] [(.ref b77), (.ref b133), (.ref b133)]))
  refine own_go (fun t k => XS.aloadN X133.here hx rfl (hb hby dt2_130) rfl rfl k) ?_
  show own_G p.tables e below s _ _ _ (T133.setTop (mkF m 131 #[.val (.ref a1), .val (.ref b77), .val (.ref b86), .val (.int (2 : Int32))] [(.ref b86), (.ref b77), (.ref b133), (.ref b133)]))
  obtain ⟨_, _, ⟨T146, L146, k146, n146⟩, -, X146, ⟨Lc146, hQ146, l146, y146, z146⟩, st146⟩ := X133.specialBack hx (y := (⟨"com/example/options_into_arguments/optionsintoarguments/quality/Curve", "<init>", "([D[D)V"⟩ : MethodName)) rfl hown (mvT hZ (hw _ (List.mem_of_getElem? (i := 10) rfl))) (mvT hZ (hw _ (List.mem_of_getElem? (i := 11) rfl))) (mvT hZ (hw _ (List.mem_of_getElem? (i := 12) rfl))) (by decide) (backOf (W := 1) (rmi l Z a0 hw [] b133 b77 b86 h133 n0 z142 A133 f144 f145 g134) hZ (hw _ (List.mem_of_getElem? (i := 12) rfl)) (hw _ (List.mem_of_getElem? (i := 6) rfl)) (by decide) (by decide)) (g := (mkF m 131 #[.val (.ref a1), .val (.ref b77), .val (.ref b86), .val (.int (2 : Int32))] [(.ref b86), (.ref b77), (.ref b133), (.ref b133)])) rfl (by rw [hml]; rfl) (Steps.refl _) (a := b133) (argsL := [(.ref b77), (.ref b86)]) (rest := [(.ref b133)]) (lenOf pd___D_D_V rfl) rfl (by show 2 * 0 + _ ≤ _; exact Nat.le_of_eq rfl) (hb hby dt2_131) (fun _ _ => ⟨rfl, e133, (by decide : 3 + 0 ≤ _), (by decide : 6 + 0 ≤ _)⟩)
  dsimp only [Pt.U, Pt.locs, Pt.cells, Pt.slots] at X146 l146 y146 z146 st146 hQ146
  subst l146 y146 z146
  obtain ⟨rfl, N146q, K146, Fx146, Fy146⟩ := hQ146
  have N146 := Fr.app N122 N146q
  refine own_go (fun t k => st146.trans k) ?_
  have f147 := f139.keep K146 (fun q => (List.mem_cons.mp q).elim n136 (fun q => nomatch q))
  have f148 := f140.keep K146 (fun q => (List.mem_cons.mp q).elim n137 (fun q => nomatch q))
  have f149 := f141.keep K146 (fun q => (List.mem_cons.mp q).elim n138 (fun q => nomatch q))
  have f150 := A133.keep K146
  have z151 := Nat.le_trans z142 K146.1
  have k152 := k143.trans K146 (fun x => (fun q => (List.mem_cons.mp q).elim (fun e => e ▸ Or.inr s135) (fun q => nomatch q)))
  show own_G p.tables e below s _ _ _ (T146.setTop (mkF m 134 #[.val (.ref a1), .val (.ref b77), .val (.ref b86), .val (.int (2 : Int32))] [(.ref b133)]))
  exact own_retA X146 hx hlk Bd.returns rfl rfl (hb hby dt2_134) (⟨⟨_, _, _, _, _, rfl, f150, Fx146, Fy146, f148, f149⟩, N146, k152⟩) (by decide) (by decide)
theorem dt3_0 : decode prog_17_method_2_code 0 = .ok (.aload_n 0, 1) := by decide +kernel
theorem dt3_1 : decode prog_17_method_2_code 1 = .ok (.arraylength, 1) := by decide +kernel
theorem dt3_2 : decode prog_17_method_2_code 2 = .ok (.iconst 2, 1) := by decide +kernel
theorem dt3_3 : decode prog_17_method_2_code 3 = .ok (.if_icmp .lt 10, 3) := by decide +kernel
theorem dt3_6 : decode prog_17_method_2_code 6 = .ok (.aload_n 0, 1) := by decide +kernel
theorem dt3_7 : decode prog_17_method_2_code 7 = .ok (.arraylength, 1) := by decide +kernel
theorem dt3_8 : decode prog_17_method_2_code 8 = .ok (.iconst 2, 1) := by decide +kernel
theorem dt3_9 : decode prog_17_method_2_code 9 = .ok (.irem, 1) := by decide +kernel
theorem dt3_10 : decode prog_17_method_2_code 10 = .ok (.ifCond .eq 20, 3) := by decide +kernel
theorem dt3_30 : decode prog_17_method_2_code 30 = .ok (.aload_n 0, 1) := by decide +kernel
theorem dt3_31 : decode prog_17_method_2_code 31 = .ok (.arraylength, 1) := by decide +kernel
theorem dt3_32 : decode prog_17_method_2_code 32 = .ok (.iconst 2, 1) := by decide +kernel
theorem dt3_33 : decode prog_17_method_2_code 33 = .ok (.idiv, 1) := by decide +kernel
theorem dt3_34 : decode prog_17_method_2_code 34 = .ok (.newarray .double, 2) := by decide +kernel
theorem dt3_36 : decode prog_17_method_2_code 36 = .ok (.astore_n 1, 1) := by decide +kernel
theorem dt3_37 : decode prog_17_method_2_code 37 = .ok (.aload_n 0, 1) := by decide +kernel
theorem dt3_38 : decode prog_17_method_2_code 38 = .ok (.arraylength, 1) := by decide +kernel
theorem dt3_39 : decode prog_17_method_2_code 39 = .ok (.iconst 2, 1) := by decide +kernel
theorem dt3_40 : decode prog_17_method_2_code 40 = .ok (.idiv, 1) := by decide +kernel
theorem dt3_41 : decode prog_17_method_2_code 41 = .ok (.newarray .double, 2) := by decide +kernel
theorem dt3_43 : decode prog_17_method_2_code 43 = .ok (.astore_n 2, 1) := by decide +kernel
theorem dt3_44 : decode prog_17_method_2_code 44 = .ok (.iconst 0, 1) := by decide +kernel
theorem dt3_45 : decode prog_17_method_2_code 45 = .ok (.istore_n 3, 1) := by decide +kernel
theorem dt3_46 : decode prog_17_method_2_code 46 = .ok (.iload_n 3, 1) := by decide +kernel
theorem dt3_47 : decode prog_17_method_2_code 47 = .ok (.aload_n 1, 1) := by decide +kernel
theorem dt3_48 : decode prog_17_method_2_code 48 = .ok (.arraylength, 1) := by decide +kernel
theorem dt3_49 : decode prog_17_method_2_code 49 = .ok (.if_icmp .ge 76, 3) := by decide +kernel
theorem dt3_52 : decode prog_17_method_2_code 52 = .ok (.aload_n 1, 1) := by decide +kernel
theorem dt3_53 : decode prog_17_method_2_code 53 = .ok (.iload_n 3, 1) := by decide +kernel
theorem dt3_54 : decode prog_17_method_2_code 54 = .ok (.aload_n 0, 1) := by decide +kernel
theorem dt3_55 : decode prog_17_method_2_code 55 = .ok (.iconst 2, 1) := by decide +kernel
theorem dt3_56 : decode prog_17_method_2_code 56 = .ok (.iload_n 3, 1) := by decide +kernel
theorem dt3_57 : decode prog_17_method_2_code 57 = .ok (.imul, 1) := by decide +kernel
theorem dt3_58 : decode prog_17_method_2_code 58 = .ok (.daload, 1) := by decide +kernel
theorem dt3_59 : decode prog_17_method_2_code 59 = .ok (.dastore, 1) := by decide +kernel
theorem dt3_60 : decode prog_17_method_2_code 60 = .ok (.aload_n 2, 1) := by decide +kernel
theorem dt3_61 : decode prog_17_method_2_code 61 = .ok (.iload_n 3, 1) := by decide +kernel
theorem dt3_62 : decode prog_17_method_2_code 62 = .ok (.aload_n 0, 1) := by decide +kernel
theorem dt3_63 : decode prog_17_method_2_code 63 = .ok (.iconst 2, 1) := by decide +kernel
theorem dt3_64 : decode prog_17_method_2_code 64 = .ok (.iload_n 3, 1) := by decide +kernel
theorem dt3_65 : decode prog_17_method_2_code 65 = .ok (.imul, 1) := by decide +kernel
theorem dt3_66 : decode prog_17_method_2_code 66 = .ok (.iconst 1, 1) := by decide +kernel
theorem dt3_67 : decode prog_17_method_2_code 67 = .ok (.iadd, 1) := by decide +kernel
theorem dt3_68 : decode prog_17_method_2_code 68 = .ok (.daload, 1) := by decide +kernel
theorem dt3_69 : decode prog_17_method_2_code 69 = .ok (.dastore, 1) := by decide +kernel
theorem dt3_70 : decode prog_17_method_2_code 70 = .ok (.iload_n 3, 1) := by decide +kernel
theorem dt3_71 : decode prog_17_method_2_code 71 = .ok (.ifCond .le 15, 3) := by decide +kernel
theorem dt3_86 : decode prog_17_method_2_code 86 = .ok (.aload_n 2, 1) := by decide +kernel
theorem dt3_87 : decode prog_17_method_2_code 87 = .ok (.iload_n 3, 1) := by decide +kernel
theorem dt3_88 : decode prog_17_method_2_code 88 = .ok (.daload, 1) := by decide +kernel
theorem dt3_89 : decode prog_17_method_2_code 89 = .ok (.dconst 0, 1) := by decide +kernel
theorem dt3_90 : decode prog_17_method_2_code 90 = .ok (.dcmp .l, 1) := by decide +kernel
theorem dt3_91 : decode prog_17_method_2_code 91 = .ok (.ifCond .lt 11, 3) := by decide +kernel
theorem dt3_94 : decode prog_17_method_2_code 94 = .ok (.aload_n 2, 1) := by decide +kernel
theorem dt3_95 : decode prog_17_method_2_code 95 = .ok (.iload_n 3, 1) := by decide +kernel
theorem dt3_96 : decode prog_17_method_2_code 96 = .ok (.daload, 1) := by decide +kernel
theorem dt3_97 : decode prog_17_method_2_code 97 = .ok (.dconst 1, 1) := by decide +kernel
theorem dt3_98 : decode prog_17_method_2_code 98 = .ok (.dcmp .g, 1) := by decide +kernel
theorem dt3_99 : decode prog_17_method_2_code 99 = .ok (.ifCond .le 20, 3) := by decide +kernel
theorem dt3_119 : decode prog_17_method_2_code 119 = .ok (.iinc 3 1, 3) := by decide +kernel
theorem dt3_122 : decode prog_17_method_2_code 122 = .ok (.goto (-76), 3) := by decide +kernel
theorem dt3_74 : decode prog_17_method_2_code 74 = .ok (.aload_n 1, 1) := by decide +kernel
theorem dt3_75 : decode prog_17_method_2_code 75 = .ok (.iload_n 3, 1) := by decide +kernel
theorem dt3_76 : decode prog_17_method_2_code 76 = .ok (.daload, 1) := by decide +kernel
theorem dt3_77 : decode prog_17_method_2_code 77 = .ok (.aload_n 1, 1) := by decide +kernel
theorem dt3_78 : decode prog_17_method_2_code 78 = .ok (.iload_n 3, 1) := by decide +kernel
theorem dt3_79 : decode prog_17_method_2_code 79 = .ok (.iconst 1, 1) := by decide +kernel
theorem dt3_80 : decode prog_17_method_2_code 80 = .ok (.isub, 1) := by decide +kernel
theorem dt3_81 : decode prog_17_method_2_code 81 = .ok (.daload, 1) := by decide +kernel
theorem dt3_82 : decode prog_17_method_2_code 82 = .ok (.dcmp .l, 1) := by decide +kernel
theorem dt3_83 : decode prog_17_method_2_code 83 = .ok (.ifCond .le 19, 3) := by decide +kernel
theorem dt3_125 : decode prog_17_method_2_code 125 = .ok (.new 8, 3) := by decide +kernel
theorem dt3_128 : decode prog_17_method_2_code 128 = .ok (.dup, 1) := by decide +kernel
theorem dt3_129 : decode prog_17_method_2_code 129 = .ok (.aload_n 1, 1) := by decide +kernel
theorem dt3_130 : decode prog_17_method_2_code 130 = .ok (.aload_n 2, 1) := by decide +kernel
theorem dt3_131 : decode prog_17_method_2_code 131 = .ok (.invokespecial 32, 3) := by decide +kernel
theorem dt3_134 : decode prog_17_method_2_code 134 = .ok (.areturn, 1) := by decide +kernel
theorem ef_t3 (m : MethodId) (x0 : Addr) : entryFrame m #[(.ref x0)] 4 = mkF m 0 #[.val (.ref x0), .unset, .unset, .unset] [] := by first | (simp [entryFrame, mkF, argsToLocals, Value.category]; done) | rfl
def Qt3 (Z : State) (a1 : Addr) (k1 : ClassId) (x0 y0 x1 y1 x2 y2 : UInt64) (PX0 PY0 PX1 PY1 PX2 PY2 : Int) (h0 : Heap) (n0 : Nat) (v : Option Value) (h : Heap) (L : List Loc) : Prop := (∃ (b xa ya : Addr) (kx ky : ClassId), v = some (.ref b) ∧ Exa Z h b "com/example/options_into_arguments/optionsintoarguments/quality/Curve" ∧ Fld Z h b "com/example/options_into_arguments/optionsintoarguments/quality/Curve" "xs" "[D" (.ref xa) ∧ Fld Z h b "com/example/options_into_arguments/optionsintoarguments/quality/Curve" "ys" "[D" (.ref ya) ∧ Arv Z h xa kx .double (3 : Int32) [(.double x0), (.double x1), (.double x2)] (.double 0) ∧ Arv Z h ya ky .double (3 : Int32) [(.double y0), (.double y1), (.double y2)] (.double 0)) ∧ Fr n0 L ∧ Keep h0 h []
set_option maxRecDepth 65536 in
set_option maxHeartbeats 40000000 in
theorem rmt3 (l : Launch) (Z : State) (a0 : Array Value) (hw : ∀ d ∈ tables_1, d.before a0 Z = true) (ws : List Jvm.Cond) (a1 : Addr) (k1 : ClassId) (x0 y0 x1 y1 x2 y2 : UInt64) (PX0 PY0 PX1 PY1 PX2 PY2 : Int) (h0 : Heap) (n0 : Nat) (Z0 : n0 ≤ h0.size) (V1 : Arv Z h0 a1 k1 .double (6 : Int32) [(.double x0), (.double y0), (.double x1), (.double y1), (.double x2), (.double y2)] (.double 0)) (hx0 : own_E PX0 x0) (hy0 : own_E PY0 y0) (hx1 : own_E PX1 x1) (hy1 : own_E PY1 y1) (hx2 : own_E PX2 x2) (hy2 : own_E PY2 y2) (hX1 : PX0 < PX1) (hX2 : PX1 < PX2) (hY0 : 0 ≤ PY0 ∧ PY0 ≤ 8) (hY1 : 0 ≤ PY1 ∧ PY1 ≤ 8) (hY2 : 0 ≤ PY2 ∧ PY2 ≤ 8) :
    MetFree l (⟨"com/example/options_into_arguments/optionsintoarguments/quality/Curve", "through", "([D)Lcom/example/options_into_arguments/optionsintoarguments/quality/Curve;"⟩ : MethodName) (head1 (Jvm.Cond.code (⟨"com/example/options_into_arguments/optionsintoarguments/quality/Curve", "through", "([D)Lcom/example/options_into_arguments/optionsintoarguments/quality/Curve;"⟩ : MethodName) prog_17_method_2_code 4 (some (.object "com/example/options_into_arguments/optionsintoarguments/quality/Curve")) :: ws) ({ frames := 2, cells := 3, slots := 8, locals := 27 } : Room)) (fun a U => a = #[(.ref a1)] ∧ Z.Warmed39 U.vm ∧ U.heap = h0) (fun _ _ _ _ _ => True) (fun _ U o U' => ∃ v L, o = .returned v ∧ Qt3 Z a1 k1 x0 y0 x1 y1 x2 y2 PX0 PY0 PX1 PY1 PX2 PY2 h0 n0 v U'.heap L ∧ FrameEnd U o U' L ({ frames := 2, cells := 3, slots := 8, locals := 27 } : Room).cells ({ frames := 2, cells := 3, slots := 8, locals := 27 } : Room).slots) := by
  refine MetFree.of_bodySF (plainFor_of_name pn_com_example_options_into_arguments_optionsintoarguments_quality_Curve) hisR ?_
  intro p e s m args below meth c s₁ Bd hml0 hP hK
  obtain ⟨rfl, hZ, hh⟩ := hP
  have hx := Bd.exec
  have hby := Bd.bytes
  have hlk : meth.locks = false := BodyLoose.notSynchronized Bd
  have hml : c.maxLocals = 4 := hml0
  have hown : s.vm.findClass "com/example/options_into_arguments/optionsintoarguments/quality/Curve" = some m.cls := findClass_of_methodNamed Bd.named
  have hnm := (name_of_methodNamed Bd.named Bd.method).1
  have X0 : Stand p l e ({ frames := 2, cells := 3, slots := 8, locals := 27 } : Room) s m #[(.ref a1)] below meth c s₁ [] 0 0 := Stand.of_body Bd
  have e0 : s₁.heap = h0 := by rw [← hh, Bd.state]; rfl
  have N0 := Fr.nil n0
  show own_G p.tables e below s (Qt3 Z a1 k1 x0 y0 x1 y1 x2 y2 PX0 PY0 PX1 PY1 PX2 PY2 h0 n0) ({ frames := 2, cells := 3, slots := 8, locals := 27 } : Room).cells ({ frames := 2, cells := 3, slots := 8, locals := 27 } : Room).slots (s₁.setTop (entryFrame m #[(.ref a1)] 4))
  refine own_go (fun t k => castTop (ef_t3 m a1) k) ?_
  show own_G p.tables e below s _ _ _ (s₁.setTop (mkF m 0 #[.val (.ref a1), .unset, .unset, .unset] []))
  refine own_go (fun t k => XS.aloadN X0.here hx rfl (hb hby dt3_0) rfl rfl k) ?_
  show own_G p.tables e below s _ _ _ (s₁.setTop (mkF m 1 #[.val (.ref a1), .unset, .unset, .unset] [(.ref a1)]))
  obtain ⟨cl153, Ar153, q153, S153, NN153, HH153, GG153⟩ := id V1
  have hlen153 := len_of S153 NN153
  refine own_go (A := s₁.setTop (mkF m 2 #[.val (.ref a1), .unset, .unset, .unset] [(.int (6 : Int32))])) (fun t k => X0.arraylength hx (by rw [e0]; exact Ar153.1) (State.isArrayOf_alike hZ.alike Ar153.2.1) (g := (mkF m 1 #[.val (.ref a1), .unset, .unset, .unset] [(.ref a1)])) rfl rfl (hb hby dt3_1) _ (by rw [hlen153]; exact k)) ?_
  show own_G p.tables e below s _ _ _ (s₁.setTop (mkF m 2 #[.val (.ref a1), .unset, .unset, .unset] [(.int (6 : Int32))]))
  refine own_go (fun t k => XS.iconst X0.here hx rfl (hb hby dt3_2) k) ?_
  show own_G p.tables e below s _ _ _ (s₁.setTop (mkF m 3 #[.val (.ref a1), .unset, .unset, .unset] [(.int (2 : Int32)), (.int (6 : Int32))]))
  refine own_go (fun t k => XS.icmpNo X0.here hx rfl (hb hby dt3_3) rfl (by decide) k) ?_
  show own_G p.tables e below s _ _ _ (s₁.setTop (mkF m 6 #[.val (.ref a1), .unset, .unset, .unset] []))
  refine own_go (fun t k => XS.aloadN X0.here hx rfl (hb hby dt3_6) rfl rfl k) ?_
  show own_G p.tables e below s _ _ _ (s₁.setTop (mkF m 7 #[.val (.ref a1), .unset, .unset, .unset] [(.ref a1)]))
  obtain ⟨cl154, Ar154, q154, S154, NN154, HH154, GG154⟩ := id V1
  have hlen154 := len_of S154 NN154
  refine own_go (A := s₁.setTop (mkF m 8 #[.val (.ref a1), .unset, .unset, .unset] [(.int (6 : Int32))])) (fun t k => X0.arraylength hx (by rw [e0]; exact Ar154.1) (State.isArrayOf_alike hZ.alike Ar154.2.1) (g := (mkF m 7 #[.val (.ref a1), .unset, .unset, .unset] [(.ref a1)])) rfl rfl (hb hby dt3_7) _ (by rw [hlen154]; exact k)) ?_
  show own_G p.tables e below s _ _ _ (s₁.setTop (mkF m 8 #[.val (.ref a1), .unset, .unset, .unset] [(.int (6 : Int32))]))
  refine own_go (fun t k => XS.iconst X0.here hx rfl (hb hby dt3_8) k) ?_
  show own_G p.tables e below s _ _ _ (s₁.setTop (mkF m 9 #[.val (.ref a1), .unset, .unset, .unset] [(.int (2 : Int32)), (.int (6 : Int32))]))
  refine own_go (fun t k => iremM X0 hx rfl (hb hby dt3_9) rfl (by decide) k) ?_
  show own_G p.tables e below s _ _ _ (s₁.setTop (mkF m 10 #[.val (.ref a1), .unset, .unset, .unset] [(.int (0 : Int32))]))
  refine own_go (fun t k => XS.ifYes X0.here hx rfl (pc0 := 10) (pc' := 30) rfl (hb hby dt3_10) rfl (by decide) (by decide) (by decide) k) ?_
  show own_G p.tables e below s _ _ _ (s₁.setTop (mkF m 30 #[.val (.ref a1), .unset, .unset, .unset] []))
  refine own_go (fun t k => XS.aloadN X0.here hx rfl (hb hby dt3_30) rfl rfl k) ?_
  show own_G p.tables e below s _ _ _ (s₁.setTop (mkF m 31 #[.val (.ref a1), .unset, .unset, .unset] [(.ref a1)]))
  obtain ⟨cl155, Ar155, q155, S155, NN155, HH155, GG155⟩ := id V1
  have hlen155 := len_of S155 NN155
  refine own_go (A := s₁.setTop (mkF m 32 #[.val (.ref a1), .unset, .unset, .unset] [(.int (6 : Int32))])) (fun t k => X0.arraylength hx (by rw [e0]; exact Ar155.1) (State.isArrayOf_alike hZ.alike Ar155.2.1) (g := (mkF m 31 #[.val (.ref a1), .unset, .unset, .unset] [(.ref a1)])) rfl rfl (hb hby dt3_31) _ (by rw [hlen155]; exact k)) ?_
  show own_G p.tables e below s _ _ _ (s₁.setTop (mkF m 32 #[.val (.ref a1), .unset, .unset, .unset] [(.int (6 : Int32))]))
  refine own_go (fun t k => XS.iconst X0.here hx rfl (hb hby dt3_32) k) ?_
  show own_G p.tables e below s _ _ _ (s₁.setTop (mkF m 33 #[.val (.ref a1), .unset, .unset, .unset] [(.int (2 : Int32)), (.int (6 : Int32))]))
  refine own_go (fun t k => XS.idiv X0.here hx rfl (hb hby dt3_33) rfl (by decide) k) ?_
  show own_G p.tables e below s _ _ _ (s₁.setTop (mkF m 34 #[.val (.ref a1), .unset, .unset, .unset] [(.int (3 : Int32))]))
  obtain ⟨T156, h156, k156, X156, e156, E156, A156, st156⟩ := newP X0 hx hZ (hw _ (List.mem_of_getElem? (i := 3) rfl)) e0 (g := (mkF m 34 #[.val (.ref a1), .unset, .unset, .unset] [(.int (3 : Int32))])) rfl (hb hby dt3_34) rfl (by decide) (cap := 3) (by decide) (by decide) (by decide) (by decide)
  obtain ⟨b156, g156⟩ : ∃ z, z = h0.size := ⟨_, rfl⟩
  rw [← g156] at A156 st156
  refine own_go st156 ?_
  have g157 := Nat.le_trans Z0 (Nat.le_of_eq g156.symm)
  have s158 := Nat.le_trans (Keep.refl h0 []).1 (Nat.le_of_eq g156.symm)
  have n159 := Nat.ne_of_lt (Nat.lt_of_lt_of_le V1.lt (Nat.le_of_eq g156.symm))
  have f160 := V1.ext E156
  have z161 := Nat.le_trans Z0 E156.1
  have k162 := (Keep.refl h0 []).ext E156
  have v163 : Arv Z h156 b156 k156 .double (3 : Int32) [(.double 0), (.double 0), (.double 0)] (.double 0) := (Arv.new A156 (by decide)).pad (pad_rep [] (.double 0) 3)
  show own_G p.tables e below s _ _ _ (T156.setTop (mkF m 36 #[.val (.ref a1), .unset, .unset, .unset] [(.ref b156)]))
  refine own_go (fun t k => XS.astoreN X156.here hx rfl (hb hby dt3_36) rfl rfl (l' := #[.val (.ref a1), .val (.ref b156), .unset, .unset]) rfl k) ?_
  show own_G p.tables e below s _ _ _ (T156.setTop (mkF m 37 #[.val (.ref a1), .val (.ref b156), .unset, .unset] []))
  refine own_go (fun t k => XS.aloadN X156.here hx rfl (hb hby dt3_37) rfl rfl k) ?_
  show own_G p.tables e below s _ _ _ (T156.setTop (mkF m 38 #[.val (.ref a1), .val (.ref b156), .unset, .unset] [(.ref a1)]))
  obtain ⟨cl164, Ar164, q164, S164, NN164, HH164, GG164⟩ := id f160
  have hlen164 := len_of S164 NN164
  refine own_go (A := T156.setTop (mkF m 39 #[.val (.ref a1), .val (.ref b156), .unset, .unset] [(.int (6 : Int32))])) (fun t k => X156.arraylength hx (by rw [e156]; exact Ar164.1) (State.isArrayOf_alike hZ.alike Ar164.2.1) (g := (mkF m 38 #[.val (.ref a1), .val (.ref b156), .unset, .unset] [(.ref a1)])) rfl rfl (hb hby dt3_38) _ (by rw [hlen164]; exact k)) ?_
  show own_G p.tables e below s _ _ _ (T156.setTop (mkF m 39 #[.val (.ref a1), .val (.ref b156), .unset, .unset] [(.int (6 : Int32))]))
  refine own_go (fun t k => XS.iconst X156.here hx rfl (hb hby dt3_39) k) ?_
  show own_G p.tables e below s _ _ _ (T156.setTop (mkF m 40 #[.val (.ref a1), .val (.ref b156), .unset, .unset] [(.int (2 : Int32)), (.int (6 : Int32))]))
  refine own_go (fun t k => XS.idiv X156.here hx rfl (hb hby dt3_40) rfl (by decide) k) ?_
  show own_G p.tables e below s _ _ _ (T156.setTop (mkF m 41 #[.val (.ref a1), .val (.ref b156), .unset, .unset] [(.int (3 : Int32))]))
  obtain ⟨T165, h165, k165, X165, e165, E165, A165, st165⟩ := newP X156 hx hZ (hw _ (List.mem_of_getElem? (i := 3) rfl)) e156 (g := (mkF m 41 #[.val (.ref a1), .val (.ref b156), .unset, .unset] [(.int (3 : Int32))])) rfl (hb hby dt3_41) rfl (by decide) (cap := 3) (by decide) (by decide) (by decide) (by decide)
  obtain ⟨b165, g165⟩ : ∃ z, z = h156.size := ⟨_, rfl⟩
  rw [← g165] at A165 st165
  refine own_go st165 ?_
  have g166 := Nat.le_trans z161 (Nat.le_of_eq g165.symm)
  have s167 := Nat.le_trans k162.1 (Nat.le_of_eq g165.symm)
  have n168 := Nat.ne_of_lt (Nat.lt_of_lt_of_le f160.lt (Nat.le_of_eq g165.symm))
  have n169 := Nat.ne_of_lt (Nat.lt_of_lt_of_le v163.lt (Nat.le_of_eq g165.symm))
  have f170 := f160.ext E165
  have f171 := v163.ext E165
  have z172 := Nat.le_trans z161 E165.1
  have k173 := k162.ext E165
  have v174 : Arv Z h165 b165 k165 .double (3 : Int32) [(.double 0), (.double 0), (.double 0)] (.double 0) := (Arv.new A165 (by decide)).pad (pad_rep [] (.double 0) 3)
  show own_G p.tables e below s _ _ _ (T165.setTop (mkF m 43 #[.val (.ref a1), .val (.ref b156), .unset, .unset] [(.ref b165)]))
  refine own_go (fun t k => XS.astoreN X165.here hx rfl (hb hby dt3_43) rfl rfl (l' := #[.val (.ref a1), .val (.ref b156), .val (.ref b165), .unset]) rfl k) ?_
  show own_G p.tables e below s _ _ _ (T165.setTop (mkF m 44 #[.val (.ref a1), .val (.ref b156), .val (.ref b165), .unset] []))
  refine own_go (fun t k => XS.iconst X165.here hx rfl (hb hby dt3_44) k) ?_
  show own_G p.tables e below s _ _ _ (T165.setTop (mkF m 45 #[.val (.ref a1), .val (.ref b156), .val (.ref b165), .unset] [(.int (0 : Int32))]))
  refine own_go (fun t k => XS.istoreN X165.here hx rfl (hb hby dt3_45) rfl (l' := #[.val (.ref a1), .val (.ref b156), .val (.ref b165), .val (.int (0 : Int32))]) rfl k) ?_
  show own_G p.tables e below s _ _ _ (T165.setTop (mkF m 46 #[.val (.ref a1), .val (.ref b156), .val (.ref b165), .val (.int (0 : Int32))] []))
  refine own_go (fun t k => XS.iloadN X165.here hx rfl (hb hby dt3_46) rfl k) ?_
  show own_G p.tables e below s _ _ _ (T165.setTop (mkF m 47 #[.val (.ref a1), .val (.ref b156), .val (.ref b165), .val (.int (0 : Int32))] [(.int (0 : Int32))]))
  refine own_go (fun t k => XS.aloadN X165.here hx rfl (hb hby dt3_47) rfl rfl k) ?_
  show own_G p.tables e below s _ _ _ (T165.setTop (mkF m 48 #[.val (.ref a1), .val (.ref b156), .val (.ref b165), .val (.int (0 : Int32))] [(.ref b156), (.int (0 : Int32))]))
  obtain ⟨cl175, Ar175, q175, S175, NN175, HH175, GG175⟩ := id f171
  have hlen175 := len_of S175 NN175
  refine own_go (A := T165.setTop (mkF m 49 #[.val (.ref a1), .val (.ref b156), .val (.ref b165), .val (.int (0 : Int32))] [(.int (3 : Int32)), (.int (0 : Int32))])) (fun t k => X165.arraylength hx (by rw [e165]; exact Ar175.1) (State.isArrayOf_alike hZ.alike Ar175.2.1) (g := (mkF m 48 #[.val (.ref a1), .val (.ref b156), .val (.ref b165), .val (.int (0 : Int32))] [(.ref b156), (.int (0 : Int32))])) rfl rfl (hb hby dt3_48) _ (by rw [hlen175]; exact k)) ?_
  show own_G p.tables e below s _ _ _ (T165.setTop (mkF m 49 #[.val (.ref a1), .val (.ref b156), .val (.ref b165), .val (.int (0 : Int32))] [(.int (3 : Int32)), (.int (0 : Int32))]))
  refine own_go (fun t k => XS.icmpNo X165.here hx rfl (hb hby dt3_49) rfl (by decide) k) ?_
  show own_G p.tables e below s _ _ _ (T165.setTop (mkF m 52 #[.val (.ref a1), .val (.ref b156), .val (.ref b165), .val (.int (0 : Int32))] []))
  refine own_go (fun t k => XS.aloadN X165.here hx rfl (hb hby dt3_52) rfl rfl k) ?_
  show own_G p.tables e below s _ _ _ (T165.setTop (mkF m 53 #[.val (.ref a1), .val (.ref b156), .val (.ref b165), .val (.int (0 : Int32))] [(.ref b156)]))
  refine own_go (fun t k => XS.iloadN X165.here hx rfl (hb hby dt3_53) rfl k) ?_
  show own_G p.tables e below s _ _ _ (T165.setTop (mkF m 54 #[.val (.ref a1), .val (.ref b156), .val (.ref b165), .val (.int (0 : Int32))] [(.int (0 : Int32)), (.ref b156)]))
  refine own_go (fun t k => XS.aloadN X165.here hx rfl (hb hby dt3_54) rfl rfl k) ?_
  show own_G p.tables e below s _ _ _ (T165.setTop (mkF m 55 #[.val (.ref a1), .val (.ref b156), .val (.ref b165), .val (.int (0 : Int32))] [(.ref a1), (.int (0 : Int32)), (.ref b156)]))
  refine own_go (fun t k => XS.iconst X165.here hx rfl (hb hby dt3_55) k) ?_
  show own_G p.tables e below s _ _ _ (T165.setTop (mkF m 56 #[.val (.ref a1), .val (.ref b156), .val (.ref b165), .val (.int (0 : Int32))] [(.int (2 : Int32)), (.ref a1), (.int (0 : Int32)), (.ref b156)]))
  refine own_go (fun t k => XS.iloadN X165.here hx rfl (hb hby dt3_56) rfl k) ?_
  show own_G p.tables e below s _ _ _ (T165.setTop (mkF m 57 #[.val (.ref a1), .val (.ref b156), .val (.ref b165), .val (.int (0 : Int32))] [(.int (0 : Int32)), (.int (2 : Int32)), (.ref a1), (.int (0 : Int32)), (.ref b156)]))
  refine own_go (fun t k => XS.imul X165.here hx rfl (hb hby dt3_57) rfl k) ?_
  show own_G p.tables e below s _ _ _ (T165.setTop (mkF m 58 #[.val (.ref a1), .val (.ref b156), .val (.ref b165), .val (.int (0 : Int32))] [(.int (0 : Int32)), (.ref a1), (.int (0 : Int32)), (.ref b156)]))
  obtain ⟨cl176, Ar176, q176, S176, NN176, HH176, GG176⟩ := id f170
  have hin176 : ¬ ((0 : Int32) < 0 ∨ cl176.slots.size ≤ ((0 : Int32)).toNatClampNeg) := inb_of S176 ⟨by decide, by decide⟩
  have hat176 : cl176.slots[((0 : Int32)).toNatClampNeg]? = some (.double x0) := Has.at HH176 hin176 rfl
  refine own_go (fun t k => X165.daload hx (j := (0 : Int32)) (v := (.double x0)) (by rw [e165]; exact Ar176.1) (State.isArrayOf_alike hZ.alike Ar176.2.1) Ar176.2.2 hin176 hat176 (g := (mkF m 58 #[.val (.ref a1), .val (.ref b156), .val (.ref b165), .val (.int (0 : Int32))] [(.int (0 : Int32)), (.ref a1), (.int (0 : Int32)), (.ref b156)])) rfl rfl (hb hby dt3_58) _ k) ?_
  show own_G p.tables e below s _ _ _ (T165.setTop (mkF m 59 #[.val (.ref a1), .val (.ref b156), .val (.ref b165), .val (.int (0 : Int32))] [(.double x0), (.int (0 : Int32)), (.ref b156)]))
  obtain ⟨cl177, Ar177, q177, S177, NN177, HH177, GG177⟩ := f171
  have hin177 : ¬ ((0 : Int32) < 0 ∨ cl177.slots.size ≤ ((0 : Int32)).toNatClampNeg) := inb_of S177 ⟨by decide, by decide⟩
  obtain ⟨T177, h177, X177, e177, W177, st177⟩ := stD X165 hx hZ e165 Ar177 (j := (0 : Int32)) hin177 (g := (mkF m 59 #[.val (.ref a1), .val (.ref b156), .val (.ref b165), .val (.int (0 : Int32))] [(.double x0), (.int (0 : Int32)), (.ref b156)])) rfl rfl (hb hby dt3_59)
  refine own_go st177 ?_
  have v178 : Arv Z h177 b156 k156 .double (3 : Int32) [(.double x0), (.double 0), (.double 0)] (.double 0) := Arv.set Ar177 q177 S177 NN177 HH177 GG177 rfl W177 0 rfl (Nat.le_of_ble_eq_true rfl)
  have f179 := f170.other W177 n159
  have f180 := v174.other W177 (Ne.symm n169)
  have z181 := Nat.le_trans z172 (Keep.of_wr W177).1
  have k182 := k173.wr W177 (Or.inr s158)
  have N177 := Fr.snoc X177 N0 g157
  show own_G p.tables e below s _ _ _ (T177.setTop (mkF m 60 #[.val (.ref a1), .val (.ref b156), .val (.ref b165), .val (.int (0 : Int32))] []))
  refine own_go (fun t k => XS.aloadN X177.here hx rfl (hb hby dt3_60) rfl rfl k) ?_
  show own_G p.tables e below s _ _ _ (T177.setTop (mkF m 61 #[.val (.ref a1), .val (.ref b156), .val (.ref b165), .val (.int (0 : Int32))] [(.ref b165)]))
  refine own_go (fun t k => XS.iloadN X177.here hx rfl (hb hby dt3_61) rfl k) ?_
  show own_G p.tables e below s _ _ _ (T177.setTop (mkF m 62 #[.val (.ref a1), .val (.ref b156), .val (.ref b165), .val (.int (0 : Int32))] [(.int (0 : Int32)), (.ref b165)]))
  refine own_go (fun t k => XS.aloadN X177.here hx rfl (hb hby dt3_62) rfl rfl k) ?_
  show own_G p.tables e below s _ _ _ (T177.setTop (mkF m 63 #[.val (.ref a1), .val (.ref b156), .val (.ref b165), .val (.int (0 : Int32))] [(.ref a1), (.int (0 : Int32)), (.ref b165)]))
  refine own_go (fun t k => XS.iconst X177.here hx rfl (hb hby dt3_63) k) ?_
  show own_G p.tables e below s _ _ _ (T177.setTop (mkF m 64 #[.val (.ref a1), .val (.ref b156), .val (.ref b165), .val (.int (0 : Int32))] [(.int (2 : Int32)), (.ref a1), (.int (0 : Int32)), (.ref b165)]))
  refine own_go (fun t k => XS.iloadN X177.here hx rfl (hb hby dt3_64) rfl k) ?_
  show own_G p.tables e below s _ _ _ (T177.setTop (mkF m 65 #[.val (.ref a1), .val (.ref b156), .val (.ref b165), .val (.int (0 : Int32))] [(.int (0 : Int32)), (.int (2 : Int32)), (.ref a1), (.int (0 : Int32)), (.ref b165)]))
  refine own_go (fun t k => XS.imul X177.here hx rfl (hb hby dt3_65) rfl k) ?_
  show own_G p.tables e below s _ _ _ (T177.setTop (mkF m 66 #[.val (.ref a1), .val (.ref b156), .val (.ref b165), .val (.int (0 : Int32))] [(.int (0 : Int32)), (.ref a1), (.int (0 : Int32)), (.ref b165)]))
  refine own_go (fun t k => XS.iconst X177.here hx rfl (hb hby dt3_66) k) ?_
  show own_G p.tables e below s _ _ _ (T177.setTop (mkF m 67 #[.val (.ref a1), .val (.ref b156), .val (.ref b165), .val (.int (0 : Int32))] [(.int (1 : Int32)), (.int (0 : Int32)), (.ref a1), (.int (0 : Int32)), (.ref b165)]))
  refine own_go (fun t k => XS.iadd X177.here hx rfl (hb hby dt3_67) rfl k) ?_
  show own_G p.tables e below s _ _ _ (T177.setTop (mkF m 68 #[.val (.ref a1), .val (.ref b156), .val (.ref b165), .val (.int (0 : Int32))] [(.int (1 : Int32)), (.ref a1), (.int (0 : Int32)), (.ref b165)]))
  obtain ⟨cl183, Ar183, q183, S183, NN183, HH183, GG183⟩ := id f179
  have hin183 : ¬ ((1 : Int32) < 0 ∨ cl183.slots.size ≤ ((1 : Int32)).toNatClampNeg) := inb_of S183 ⟨by decide, by decide⟩
  have hat183 : cl183.slots[((1 : Int32)).toNatClampNeg]? = some (.double y0) := Has.at HH183 hin183 rfl
  refine own_go (fun t k => X177.daload hx (j := (1 : Int32)) (v := (.double y0)) (by rw [e177]; exact Ar183.1) (State.isArrayOf_alike hZ.alike Ar183.2.1) Ar183.2.2 hin183 hat183 (g := (mkF m 68 #[.val (.ref a1), .val (.ref b156), .val (.ref b165), .val (.int (0 : Int32))] [(.int (1 : Int32)), (.ref a1), (.int (0 : Int32)), (.ref b165)])) rfl rfl (hb hby dt3_68) _ k) ?_
  show own_G p.tables e below s _ _ _ (T177.setTop (mkF m 69 #[.val (.ref a1), .val (.ref b156), .val (.ref b165), .val (.int (0 : Int32))] [(.double y0), (.int (0 : Int32)), (.ref b165)]))
  obtain ⟨cl184, Ar184, q184, S184, NN184, HH184, GG184⟩ := f180
  have hin184 : ¬ ((0 : Int32) < 0 ∨ cl184.slots.size ≤ ((0 : Int32)).toNatClampNeg) := inb_of S184 ⟨by decide, by decide⟩
  obtain ⟨T184, h184, X184, e184, W184, st184⟩ := stD X177 hx hZ e177 Ar184 (j := (0 : Int32)) hin184 (g := (mkF m 69 #[.val (.ref a1), .val (.ref b156), .val (.ref b165), .val (.int (0 : Int32))] [(.double y0), (.int (0 : Int32)), (.ref b165)])) rfl rfl (hb hby dt3_69)
  refine own_go st184 ?_
  have v185 : Arv Z h184 b165 k165 .double (3 : Int32) [(.double y0), (.double 0), (.double 0)] (.double 0) := Arv.set Ar184 q184 S184 NN184 HH184 GG184 rfl W184 0 rfl (Nat.le_of_ble_eq_true rfl)
  have f186 := f179.other W184 n168
  have f187 := v178.other W184 n169
  have z188 := Nat.le_trans z181 (Keep.of_wr W184).1
  have k189 := k182.wr W184 (Or.inr s167)
  have N184 := Fr.snoc X184 N177 g166
  show own_G p.tables e below s _ _ _ (T184.setTop (mkF m 70 #[.val (.ref a1), .val (.ref b156), .val (.ref b165), .val (.int (0 : Int32))] []))
  refine own_go (fun t k => XS.iloadN X184.here hx rfl (hb hby dt3_70) rfl k) ?_
  show own_G p.tables e below s _ _ _ (T184.setTop (mkF m 71 #[.val (.ref a1), .val (.ref b156), .val (.ref b165), .val (.int (0 : Int32))] [(.int (0 : Int32))]))
  refine own_go (fun t k => XS.ifYes X184.here hx rfl (pc0 := 71) (pc' := 86) rfl (hb hby dt3_71) rfl (by decide) (by decide) (by decide) k) ?_
  show own_G p.tables e below s _ _ _ (T184.setTop (mkF m 86 #[.val (.ref a1), .val (.ref b156), .val (.ref b165), .val (.int (0 : Int32))] []))
  refine own_go (fun t k => XS.aloadN X184.here hx rfl (hb hby dt3_86) rfl rfl k) ?_
  show own_G p.tables e below s _ _ _ (T184.setTop (mkF m 87 #[.val (.ref a1), .val (.ref b156), .val (.ref b165), .val (.int (0 : Int32))] [(.ref b165)]))
  refine own_go (fun t k => XS.iloadN X184.here hx rfl (hb hby dt3_87) rfl k) ?_
  show own_G p.tables e below s _ _ _ (T184.setTop (mkF m 88 #[.val (.ref a1), .val (.ref b156), .val (.ref b165), .val (.int (0 : Int32))] [(.int (0 : Int32)), (.ref b165)]))
  obtain ⟨cl190, Ar190, q190, S190, NN190, HH190, GG190⟩ := id v185
  have hin190 : ¬ ((0 : Int32) < 0 ∨ cl190.slots.size ≤ ((0 : Int32)).toNatClampNeg) := inb_of S190 ⟨by decide, by decide⟩
  have hat190 : cl190.slots[((0 : Int32)).toNatClampNeg]? = some (.double y0) := Has.at HH190 hin190 rfl
  refine own_go (fun t k => X184.daload hx (j := (0 : Int32)) (v := (.double y0)) (by rw [e184]; exact Ar190.1) (State.isArrayOf_alike hZ.alike Ar190.2.1) Ar190.2.2 hin190 hat190 (g := (mkF m 88 #[.val (.ref a1), .val (.ref b156), .val (.ref b165), .val (.int (0 : Int32))] [(.int (0 : Int32)), (.ref b165)])) rfl rfl (hb hby dt3_88) _ k) ?_
  show own_G p.tables e below s _ _ _ (T184.setTop (mkF m 89 #[.val (.ref a1), .val (.ref b156), .val (.ref b165), .val (.int (0 : Int32))] [(.double y0)]))
  refine own_go (fun t k => XS.dconst0 X184.here hx rfl (hb hby dt3_89) rfl k) ?_
  show own_G p.tables e below s _ _ _ (T184.setTop (mkF m 90 #[.val (.ref a1), .val (.ref b156), .val (.ref b165), .val (.int (0 : Int32))] [(.double Jvm.FP.dconst0), (.double y0)]))
  refine own_go (fun t k => XS.dcmpS X184.here hx rfl (hb hby dt3_90) rfl (own_cmpv hy0 own_d0) k) ?_
  show own_G p.tables e below s _ _ _ (T184.setTop (mkF m 91 #[.val (.ref a1), .val (.ref b156), .val (.ref b165), .val (.int (0 : Int32))] [(.int (own_c (PY0) (0)))]))
  refine own_go (fun t k => XS.ifNo X184.here hx rfl (hb hby dt3_91) rfl (Jvm.Free.XT.i0_lt_f (own_c_ge hY0.1)) k) ?_
  show own_G p.tables e below s _ _ _ (T184.setTop (mkF m 94 #[.val (.ref a1), .val (.ref b156), .val (.ref b165), .val (.int (0 : Int32))] []))
  refine own_go (fun t k => XS.aloadN X184.here hx rfl (hb hby dt3_94) rfl rfl k) ?_
  show own_G p.tables e below s _ _ _ (T184.setTop (mkF m 95 #[.val (.ref a1), .val (.ref b156), .val (.ref b165), .val (.int (0 : Int32))] [(.ref b165)]))
  refine own_go (fun t k => XS.iloadN X184.here hx rfl (hb hby dt3_95) rfl k) ?_
  show own_G p.tables e below s _ _ _ (T184.setTop (mkF m 96 #[.val (.ref a1), .val (.ref b156), .val (.ref b165), .val (.int (0 : Int32))] [(.int (0 : Int32)), (.ref b165)]))
  obtain ⟨cl191, Ar191, q191, S191, NN191, HH191, GG191⟩ := id v185
  have hin191 : ¬ ((0 : Int32) < 0 ∨ cl191.slots.size ≤ ((0 : Int32)).toNatClampNeg) := inb_of S191 ⟨by decide, by decide⟩
  have hat191 : cl191.slots[((0 : Int32)).toNatClampNeg]? = some (.double y0) := Has.at HH191 hin191 rfl
  refine own_go (fun t k => X184.daload hx (j := (0 : Int32)) (v := (.double y0)) (by rw [e184]; exact Ar191.1) (State.isArrayOf_alike hZ.alike Ar191.2.1) Ar191.2.2 hin191 hat191 (g := (mkF m 96 #[.val (.ref a1), .val (.ref b156), .val (.ref b165), .val (.int (0 : Int32))] [(.int (0 : Int32)), (.ref b165)])) rfl rfl (hb hby dt3_96) _ k) ?_
  show own_G p.tables e below s _ _ _ (T184.setTop (mkF m 97 #[.val (.ref a1), .val (.ref b156), .val (.ref b165), .val (.int (0 : Int32))] [(.double y0)]))
  refine own_go (fun t k => XS.dconst1 X184.here hx rfl (hb hby dt3_97) rfl k) ?_
  show own_G p.tables e below s _ _ _ (T184.setTop (mkF m 98 #[.val (.ref a1), .val (.ref b156), .val (.ref b165), .val (.int (0 : Int32))] [(.double Jvm.FP.dconst1), (.double y0)]))
  refine own_go (fun t k => XS.dcmpS X184.here hx rfl (hb hby dt3_98) rfl (own_cmpv hy0 own_d1) k) ?_
  show own_G p.tables e below s _ _ _ (T184.setTop (mkF m 99 #[.val (.ref a1), .val (.ref b156), .val (.ref b165), .val (.int (0 : Int32))] [(.int (own_c (PY0) (8)))]))
  refine own_go (fun t k => XS.ifYes X184.here hx rfl (pc0 := 99) (pc' := 119) rfl (hb hby dt3_99) rfl (Jvm.Free.XT.i0_le_t (own_c_le hY0.2)) (by decide) (by decide) k) ?_
  show own_G p.tables e below s _ _ _ (T184.setTop (mkF m 119 #[.val (.ref a1), .val (.ref b156), .val (.ref b165), .val (.int (0 : Int32))] []))
  refine own_go (fun t k => XS.iinc X184.here hx rfl (hb hby dt3_119) rfl (l' := #[.val (.ref a1), .val (.ref b156), .val (.ref b165), .val (.int (1 : Int32))]) rfl k) ?_
  show own_G p.tables e below s _ _ _ (T184.setTop (mkF m 122 #[.val (.ref a1), .val (.ref b156), .val (.ref b165), .val (.int (1 : Int32))] []))
  refine own_go (fun t k => XS.goto X184.here hx rfl (pc0 := 122) (pc' := 46) rfl (hb hby dt3_122) (by decide) (by decide) k) ?_
  show own_G p.tables e below s _ _ _ (T184.setTop (mkF m 46 #[.val (.ref a1), .val (.ref b156), .val (.ref b165), .val (.int (1 : Int32))] []))
  refine own_go (fun t k => XS.iloadN X184.here hx rfl (hb hby dt3_46) rfl k) ?_
  show own_G p.tables e below s _ _ _ (T184.setTop (mkF m 47 #[.val (.ref a1), .val (.ref b156), .val (.ref b165), .val (.int (1 : Int32))] [(.int (1 : Int32))]))
  refine own_go (fun t k => XS.aloadN X184.here hx rfl (hb hby dt3_47) rfl rfl k) ?_
  show own_G p.tables e below s _ _ _ (T184.setTop (mkF m 48 #[.val (.ref a1), .val (.ref b156), .val (.ref b165), .val (.int (1 : Int32))] [(.ref b156), (.int (1 : Int32))]))
  obtain ⟨cl192, Ar192, q192, S192, NN192, HH192, GG192⟩ := id f187
  have hlen192 := len_of S192 NN192
  refine own_go (A := T184.setTop (mkF m 49 #[.val (.ref a1), .val (.ref b156), .val (.ref b165), .val (.int (1 : Int32))] [(.int (3 : Int32)), (.int (1 : Int32))])) (fun t k => X184.arraylength hx (by rw [e184]; exact Ar192.1) (State.isArrayOf_alike hZ.alike Ar192.2.1) (g := (mkF m 48 #[.val (.ref a1), .val (.ref b156), .val (.ref b165), .val (.int (1 : Int32))] [(.ref b156), (.int (1 : Int32))])) rfl rfl (hb hby dt3_48) _ (by rw [hlen192]; exact k)) ?_
  show own_G p.tables e below s _ _ _ (T184.setTop (mkF m 49 #[.val (.ref a1), .val (.ref b156), .val (.ref b165), .val (.int (1 : Int32))] [(.int (3 : Int32)), (.int (1 : Int32))]))
  refine own_go (fun t k => XS.icmpNo X184.here hx rfl (hb hby dt3_49) rfl (by decide) k) ?_
  show own_G p.tables e below s _ _ _ (T184.setTop (mkF m 52 #[.val (.ref a1), .val (.ref b156), .val (.ref b165), .val (.int (1 : Int32))] []))
  refine own_go (fun t k => XS.aloadN X184.here hx rfl (hb hby dt3_52) rfl rfl k) ?_
  show own_G p.tables e below s _ _ _ (T184.setTop (mkF m 53 #[.val (.ref a1), .val (.ref b156), .val (.ref b165), .val (.int (1 : Int32))] [(.ref b156)]))
  refine own_go (fun t k => XS.iloadN X184.here hx rfl (hb hby dt3_53) rfl k) ?_
  show own_G p.tables e below s _ _ _ (T184.setTop (mkF m 54 #[.val (.ref a1), .val (.ref b156), .val (.ref b165), .val (.int (1 : Int32))] [(.int (1 : Int32)), (.ref b156)]))
  refine own_go (fun t k => XS.aloadN X184.here hx rfl (hb hby dt3_54) rfl rfl k) ?_
  show own_G p.tables e below s _ _ _ (T184.setTop (mkF m 55 #[.val (.ref a1), .val (.ref b156), .val (.ref b165), .val (.int (1 : Int32))] [(.ref a1), (.int (1 : Int32)), (.ref b156)]))
  refine own_go (fun t k => XS.iconst X184.here hx rfl (hb hby dt3_55) k) ?_
  show own_G p.tables e below s _ _ _ (T184.setTop (mkF m 56 #[.val (.ref a1), .val (.ref b156), .val (.ref b165), .val (.int (1 : Int32))] [(.int (2 : Int32)), (.ref a1), (.int (1 : Int32)), (.ref b156)]))
  refine own_go (fun t k => XS.iloadN X184.here hx rfl (hb hby dt3_56) rfl k) ?_
  show own_G p.tables e below s _ _ _ (T184.setTop (mkF m 57 #[.val (.ref a1), .val (.ref b156), .val (.ref b165), .val (.int (1 : Int32))] [(.int (1 : Int32)), (.int (2 : Int32)), (.ref a1), (.int (1 : Int32)), (.ref b156)]))
  refine own_go (fun t k => XS.imul X184.here hx rfl (hb hby dt3_57) rfl k) ?_
  show own_G p.tables e below s _ _ _ (T184.setTop (mkF m 58 #[.val (.ref a1), .val (.ref b156), .val (.ref b165), .val (.int (1 : Int32))] [(.int (2 : Int32)), (.ref a1), (.int (1 : Int32)), (.ref b156)]))
  obtain ⟨cl193, Ar193, q193, S193, NN193, HH193, GG193⟩ := id f186
  have hin193 : ¬ ((2 : Int32) < 0 ∨ cl193.slots.size ≤ ((2 : Int32)).toNatClampNeg) := inb_of S193 ⟨by decide, by decide⟩
  have hat193 : cl193.slots[((2 : Int32)).toNatClampNeg]? = some (.double x1) := Has.at HH193 hin193 rfl
  refine own_go (fun t k => X184.daload hx (j := (2 : Int32)) (v := (.double x1)) (by rw [e184]; exact Ar193.1) (State.isArrayOf_alike hZ.alike Ar193.2.1) Ar193.2.2 hin193 hat193 (g := (mkF m 58 #[.val (.ref a1), .val (.ref b156), .val (.ref b165), .val (.int (1 : Int32))] [(.int (2 : Int32)), (.ref a1), (.int (1 : Int32)), (.ref b156)])) rfl rfl (hb hby dt3_58) _ k) ?_
  show own_G p.tables e below s _ _ _ (T184.setTop (mkF m 59 #[.val (.ref a1), .val (.ref b156), .val (.ref b165), .val (.int (1 : Int32))] [(.double x1), (.int (1 : Int32)), (.ref b156)]))
  obtain ⟨cl194, Ar194, q194, S194, NN194, HH194, GG194⟩ := f187
  have hin194 : ¬ ((1 : Int32) < 0 ∨ cl194.slots.size ≤ ((1 : Int32)).toNatClampNeg) := inb_of S194 ⟨by decide, by decide⟩
  obtain ⟨T194, h194, X194, e194, W194, st194⟩ := stD X184 hx hZ e184 Ar194 (j := (1 : Int32)) hin194 (g := (mkF m 59 #[.val (.ref a1), .val (.ref b156), .val (.ref b165), .val (.int (1 : Int32))] [(.double x1), (.int (1 : Int32)), (.ref b156)])) rfl rfl (hb hby dt3_59)
  refine own_go st194 ?_
  have v195 : Arv Z h194 b156 k156 .double (3 : Int32) [(.double x0), (.double x1), (.double 0)] (.double 0) := Arv.set Ar194 q194 S194 NN194 HH194 GG194 rfl W194 1 rfl (Nat.le_of_ble_eq_true rfl)
  have f196 := f186.other W194 n159
  have f197 := v185.other W194 (Ne.symm n169)
  have z198 := Nat.le_trans z188 (Keep.of_wr W194).1
  have k199 := k189.wr W194 (Or.inr s158)
  have N194 := Fr.snoc X194 N184 g157
  show own_G p.tables e below s _ _ _ (T194.setTop (mkF m 60 #[.val (.ref a1), .val (.ref b156), .val (.ref b165), .val (.int (1 : Int32))] []))
  refine own_go (fun t k => XS.aloadN X194.here hx rfl (hb hby dt3_60) rfl rfl k) ?_
  show own_G p.tables e below s _ _ _ (T194.setTop (mkF m 61 #[.val (.ref a1), .val (.ref b156), .val (.ref b165), .val (.int (1 : Int32))] [(.ref b165)]))
  refine own_go (fun t k => XS.iloadN X194.here hx rfl (hb hby dt3_61) rfl k) ?_
  show own_G p.tables e below s _ _ _ (T194.setTop (mkF m 62 #[.val (.ref a1), .val (.ref b156), .val (.ref b165), .val (.int (1 : Int32))] [(.int (1 : Int32)), (.ref b165)]))
  refine own_go (fun t k => XS.aloadN X194.here hx rfl (hb hby dt3_62) rfl rfl k) ?_
  show own_G p.tables e below s _ _ _ (T194.setTop (mkF m 63 #[.val (.ref a1), .val (.ref b156), .val (.ref b165), .val (.int (1 : Int32))] [(.ref a1), (.int (1 : Int32)), (.ref b165)]))
  refine own_go (fun t k => XS.iconst X194.here hx rfl (hb hby dt3_63) k) ?_
  show own_G p.tables e below s _ _ _ (T194.setTop (mkF m 64 #[.val (.ref a1), .val (.ref b156), .val (.ref b165), .val (.int (1 : Int32))] [(.int (2 : Int32)), (.ref a1), (.int (1 : Int32)), (.ref b165)]))
  refine own_go (fun t k => XS.iloadN X194.here hx rfl (hb hby dt3_64) rfl k) ?_
  show own_G p.tables e below s _ _ _ (T194.setTop (mkF m 65 #[.val (.ref a1), .val (.ref b156), .val (.ref b165), .val (.int (1 : Int32))] [(.int (1 : Int32)), (.int (2 : Int32)), (.ref a1), (.int (1 : Int32)), (.ref b165)]))
  refine own_go (fun t k => XS.imul X194.here hx rfl (hb hby dt3_65) rfl k) ?_
  show own_G p.tables e below s _ _ _ (T194.setTop (mkF m 66 #[.val (.ref a1), .val (.ref b156), .val (.ref b165), .val (.int (1 : Int32))] [(.int (2 : Int32)), (.ref a1), (.int (1 : Int32)), (.ref b165)]))
  refine own_go (fun t k => XS.iconst X194.here hx rfl (hb hby dt3_66) k) ?_
  show own_G p.tables e below s _ _ _ (T194.setTop (mkF m 67 #[.val (.ref a1), .val (.ref b156), .val (.ref b165), .val (.int (1 : Int32))] [(.int (1 : Int32)), (.int (2 : Int32)), (.ref a1), (.int (1 : Int32)), (.ref b165)]))
  refine own_go (fun t k => XS.iadd X194.here hx rfl (hb hby dt3_67) rfl k) ?_
  show own_G p.tables e below s _ _ _ (T194.setTop (mkF m 68 #[.val (.ref a1), .val (.ref b156), .val (.ref b165), .val (.int (1 : Int32))] [(.int (3 : Int32)), (.ref a1), (.int (1 : Int32)), (.ref b165)]))
  obtain ⟨cl200, Ar200, q200, S200, NN200, HH200, GG200⟩ := id f196
  have hin200 : ¬ ((3 : Int32) < 0 ∨ cl200.slots.size ≤ ((3 : Int32)).toNatClampNeg) := inb_of S200 ⟨by decide, by decide⟩
  have hat200 : cl200.slots[((3 : Int32)).toNatClampNeg]? = some (.double y1) := Has.at HH200 hin200 rfl
  refine own_go (fun t k => X194.daload hx (j := (3 : Int32)) (v := (.double y1)) (by rw [e194]; exact Ar200.1) (State.isArrayOf_alike hZ.alike Ar200.2.1) Ar200.2.2 hin200 hat200 (g := (mkF m 68 #[.val (.ref a1), .val (.ref b156), .val (.ref b165), .val (.int (1 : Int32))] [(.int (3 : Int32)), (.ref a1), (.int (1 : Int32)), (.ref b165)])) rfl rfl (hb hby dt3_68) _ k) ?_
  show own_G p.tables e below s _ _ _ (T194.setTop (mkF m 69 #[.val (.ref a1), .val (.ref b156), .val (.ref b165), .val (.int (1 : Int32))] [(.double y1), (.int (1 : Int32)), (.ref b165)]))
  obtain ⟨cl201, Ar201, q201, S201, NN201, HH201, GG201⟩ := f197
  have hin201 : ¬ ((1 : Int32) < 0 ∨ cl201.slots.size ≤ ((1 : Int32)).toNatClampNeg) := inb_of S201 ⟨by decide, by decide⟩
  obtain ⟨T201, h201, X201, e201, W201, st201⟩ := stD X194 hx hZ e194 Ar201 (j := (1 : Int32)) hin201 (g := (mkF m 69 #[.val (.ref a1), .val (.ref b156), .val (.ref b165), .val (.int (1 : Int32))] [(.double y1), (.int (1 : Int32)), (.ref b165)])) rfl rfl (hb hby dt3_69)
  refine own_go st201 ?_
  have v202 : Arv Z h201 b165 k165 .double (3 : Int32) [(.double y0), (.double y1), (.double 0)] (.double 0) := Arv.set Ar201 q201 S201 NN201 HH201 GG201 rfl W201 1 rfl (Nat.le_of_ble_eq_true rfl)
  have f203 := f196.other W201 n168
  have f204 := v195.other W201 n169
  have z205 := Nat.le_trans z198 (Keep.of_wr W201).1
  have k206 := k199.wr W201 (Or.inr s167)
  have N201 := Fr.snoc X201 N194 g166
  show own_G p.tables e below s _ _ _ (T201.setTop (mkF m 70 #[.val (.ref a1), .val (.ref b156), .val (.ref b165), .val (.int (1 : Int32))] []))
  refine own_go (fun t k => XS.iloadN X201.here hx rfl (hb hby dt3_70) rfl k) ?_
  show own_G p.tables e below s _ _ _ (T201.setTop (mkF m 71 #[.val (.ref a1), .val (.ref b156), .val (.ref b165), .val (.int (1 : Int32))] [(.int (1 : Int32))]))
  refine own_go (fun t k => XS.ifNo X201.here hx rfl (hb hby dt3_71) rfl (by decide) k) ?_
  show own_G p.tables e below s _ _ _ (T201.setTop (mkF m 74 #[.val (.ref a1), .val (.ref b156), .val (.ref b165), .val (.int (1 : Int32))] []))
  refine own_go (fun t k => XS.aloadN X201.here hx rfl (hb hby dt3_74) rfl rfl k) ?_
  show own_G p.tables e below s _ _ _ (T201.setTop (mkF m 75 #[.val (.ref a1), .val (.ref b156), .val (.ref b165), .val (.int (1 : Int32))] [(.ref b156)]))
  refine own_go (fun t k => XS.iloadN X201.here hx rfl (hb hby dt3_75) rfl k) ?_
  show own_G p.tables e below s _ _ _ (T201.setTop (mkF m 76 #[.val (.ref a1), .val (.ref b156), .val (.ref b165), .val (.int (1 : Int32))] [(.int (1 : Int32)), (.ref b156)]))
  obtain ⟨cl207, Ar207, q207, S207, NN207, HH207, GG207⟩ := id f204
  have hin207 : ¬ ((1 : Int32) < 0 ∨ cl207.slots.size ≤ ((1 : Int32)).toNatClampNeg) := inb_of S207 ⟨by decide, by decide⟩
  have hat207 : cl207.slots[((1 : Int32)).toNatClampNeg]? = some (.double x1) := Has.at HH207 hin207 rfl
  refine own_go (fun t k => X201.daload hx (j := (1 : Int32)) (v := (.double x1)) (by rw [e201]; exact Ar207.1) (State.isArrayOf_alike hZ.alike Ar207.2.1) Ar207.2.2 hin207 hat207 (g := (mkF m 76 #[.val (.ref a1), .val (.ref b156), .val (.ref b165), .val (.int (1 : Int32))] [(.int (1 : Int32)), (.ref b156)])) rfl rfl (hb hby dt3_76) _ k) ?_
  show own_G p.tables e below s _ _ _ (T201.setTop (mkF m 77 #[.val (.ref a1), .val (.ref b156), .val (.ref b165), .val (.int (1 : Int32))] [(.double x1)]))
  refine own_go (fun t k => XS.aloadN X201.here hx rfl (hb hby dt3_77) rfl rfl k) ?_
  show own_G p.tables e below s _ _ _ (T201.setTop (mkF m 78 #[.val (.ref a1), .val (.ref b156), .val (.ref b165), .val (.int (1 : Int32))] [(.ref b156), (.double x1)]))
  refine own_go (fun t k => XS.iloadN X201.here hx rfl (hb hby dt3_78) rfl k) ?_
  show own_G p.tables e below s _ _ _ (T201.setTop (mkF m 79 #[.val (.ref a1), .val (.ref b156), .val (.ref b165), .val (.int (1 : Int32))] [(.int (1 : Int32)), (.ref b156), (.double x1)]))
  refine own_go (fun t k => XS.iconst X201.here hx rfl (hb hby dt3_79) k) ?_
  show own_G p.tables e below s _ _ _ (T201.setTop (mkF m 80 #[.val (.ref a1), .val (.ref b156), .val (.ref b165), .val (.int (1 : Int32))] [(.int (1 : Int32)), (.int (1 : Int32)), (.ref b156), (.double x1)]))
  refine own_go (fun t k => XS.isub X201.here hx rfl (hb hby dt3_80) rfl k) ?_
  show own_G p.tables e below s _ _ _ (T201.setTop (mkF m 81 #[.val (.ref a1), .val (.ref b156), .val (.ref b165), .val (.int (1 : Int32))] [(.int (0 : Int32)), (.ref b156), (.double x1)]))
  obtain ⟨cl208, Ar208, q208, S208, NN208, HH208, GG208⟩ := id f204
  have hin208 : ¬ ((0 : Int32) < 0 ∨ cl208.slots.size ≤ ((0 : Int32)).toNatClampNeg) := inb_of S208 ⟨by decide, by decide⟩
  have hat208 : cl208.slots[((0 : Int32)).toNatClampNeg]? = some (.double x0) := Has.at HH208 hin208 rfl
  refine own_go (fun t k => X201.daload hx (j := (0 : Int32)) (v := (.double x0)) (by rw [e201]; exact Ar208.1) (State.isArrayOf_alike hZ.alike Ar208.2.1) Ar208.2.2 hin208 hat208 (g := (mkF m 81 #[.val (.ref a1), .val (.ref b156), .val (.ref b165), .val (.int (1 : Int32))] [(.int (0 : Int32)), (.ref b156), (.double x1)])) rfl rfl (hb hby dt3_81) _ k) ?_
  show own_G p.tables e below s _ _ _ (T201.setTop (mkF m 82 #[.val (.ref a1), .val (.ref b156), .val (.ref b165), .val (.int (1 : Int32))] [(.double x0), (.double x1)]))
  refine own_go (fun t k => XS.dcmpS X201.here hx rfl (hb hby dt3_82) rfl (own_cmpv hx1 hx0) k) ?_
  show own_G p.tables e below s _ _ _ (T201.setTop (mkF m 83 #[.val (.ref a1), .val (.ref b156), .val (.ref b165), .val (.int (1 : Int32))] [(.int (own_c (PX1) (PX0)))]))
  refine own_go (fun t k => XS.ifNo X201.here hx rfl (hb hby dt3_83) rfl (Jvm.Free.XT.i0_le_f (own_c_gt hX1)) k) ?_
  show own_G p.tables e below s _ _ _ (T201.setTop (mkF m 86 #[.val (.ref a1), .val (.ref b156), .val (.ref b165), .val (.int (1 : Int32))] []))
  refine own_go (fun t k => XS.aloadN X201.here hx rfl (hb hby dt3_86) rfl rfl k) ?_
  show own_G p.tables e below s _ _ _ (T201.setTop (mkF m 87 #[.val (.ref a1), .val (.ref b156), .val (.ref b165), .val (.int (1 : Int32))] [(.ref b165)]))
  refine own_go (fun t k => XS.iloadN X201.here hx rfl (hb hby dt3_87) rfl k) ?_
  show own_G p.tables e below s _ _ _ (T201.setTop (mkF m 88 #[.val (.ref a1), .val (.ref b156), .val (.ref b165), .val (.int (1 : Int32))] [(.int (1 : Int32)), (.ref b165)]))
  obtain ⟨cl209, Ar209, q209, S209, NN209, HH209, GG209⟩ := id v202
  have hin209 : ¬ ((1 : Int32) < 0 ∨ cl209.slots.size ≤ ((1 : Int32)).toNatClampNeg) := inb_of S209 ⟨by decide, by decide⟩
  have hat209 : cl209.slots[((1 : Int32)).toNatClampNeg]? = some (.double y1) := Has.at HH209 hin209 rfl
  refine own_go (fun t k => X201.daload hx (j := (1 : Int32)) (v := (.double y1)) (by rw [e201]; exact Ar209.1) (State.isArrayOf_alike hZ.alike Ar209.2.1) Ar209.2.2 hin209 hat209 (g := (mkF m 88 #[.val (.ref a1), .val (.ref b156), .val (.ref b165), .val (.int (1 : Int32))] [(.int (1 : Int32)), (.ref b165)])) rfl rfl (hb hby dt3_88) _ k) ?_
  show own_G p.tables e below s _ _ _ (T201.setTop (mkF m 89 #[.val (.ref a1), .val (.ref b156), .val (.ref b165), .val (.int (1 : Int32))] [(.double y1)]))
  refine own_go (fun t k => XS.dconst0 X201.here hx rfl (hb hby dt3_89) rfl k) ?_
  show own_G p.tables e below s _ _ _ (T201.setTop (mkF m 90 #[.val (.ref a1), .val (.ref b156), .val (.ref b165), .val (.int (1 : Int32))] [(.double Jvm.FP.dconst0), (.double y1)]))
  refine own_go (fun t k => XS.dcmpS X201.here hx rfl (hb hby dt3_90) rfl (own_cmpv hy1 own_d0) k) ?_
  show own_G p.tables e below s _ _ _ (T201.setTop (mkF m 91 #[.val (.ref a1), .val (.ref b156), .val (.ref b165), .val (.int (1 : Int32))] [(.int (own_c (PY1) (0)))]))
  refine own_go (fun t k => XS.ifNo X201.here hx rfl (hb hby dt3_91) rfl (Jvm.Free.XT.i0_lt_f (own_c_ge hY1.1)) k) ?_
  show own_G p.tables e below s _ _ _ (T201.setTop (mkF m 94 #[.val (.ref a1), .val (.ref b156), .val (.ref b165), .val (.int (1 : Int32))] []))
  refine own_go (fun t k => XS.aloadN X201.here hx rfl (hb hby dt3_94) rfl rfl k) ?_
  show own_G p.tables e below s _ _ _ (T201.setTop (mkF m 95 #[.val (.ref a1), .val (.ref b156), .val (.ref b165), .val (.int (1 : Int32))] [(.ref b165)]))
  refine own_go (fun t k => XS.iloadN X201.here hx rfl (hb hby dt3_95) rfl k) ?_
  show own_G p.tables e below s _ _ _ (T201.setTop (mkF m 96 #[.val (.ref a1), .val (.ref b156), .val (.ref b165), .val (.int (1 : Int32))] [(.int (1 : Int32)), (.ref b165)]))
  obtain ⟨cl210, Ar210, q210, S210, NN210, HH210, GG210⟩ := id v202
  have hin210 : ¬ ((1 : Int32) < 0 ∨ cl210.slots.size ≤ ((1 : Int32)).toNatClampNeg) := inb_of S210 ⟨by decide, by decide⟩
  have hat210 : cl210.slots[((1 : Int32)).toNatClampNeg]? = some (.double y1) := Has.at HH210 hin210 rfl
  refine own_go (fun t k => X201.daload hx (j := (1 : Int32)) (v := (.double y1)) (by rw [e201]; exact Ar210.1) (State.isArrayOf_alike hZ.alike Ar210.2.1) Ar210.2.2 hin210 hat210 (g := (mkF m 96 #[.val (.ref a1), .val (.ref b156), .val (.ref b165), .val (.int (1 : Int32))] [(.int (1 : Int32)), (.ref b165)])) rfl rfl (hb hby dt3_96) _ k) ?_
  show own_G p.tables e below s _ _ _ (T201.setTop (mkF m 97 #[.val (.ref a1), .val (.ref b156), .val (.ref b165), .val (.int (1 : Int32))] [(.double y1)]))
  refine own_go (fun t k => XS.dconst1 X201.here hx rfl (hb hby dt3_97) rfl k) ?_
  show own_G p.tables e below s _ _ _ (T201.setTop (mkF m 98 #[.val (.ref a1), .val (.ref b156), .val (.ref b165), .val (.int (1 : Int32))] [(.double Jvm.FP.dconst1), (.double y1)]))
  refine own_go (fun t k => XS.dcmpS X201.here hx rfl (hb hby dt3_98) rfl (own_cmpv hy1 own_d1) k) ?_
  show own_G p.tables e below s _ _ _ (T201.setTop (mkF m 99 #[.val (.ref a1), .val (.ref b156), .val (.ref b165), .val (.int (1 : Int32))] [(.int (own_c (PY1) (8)))]))
  refine own_go (fun t k => XS.ifYes X201.here hx rfl (pc0 := 99) (pc' := 119) rfl (hb hby dt3_99) rfl (Jvm.Free.XT.i0_le_t (own_c_le hY1.2)) (by decide) (by decide) k) ?_
  show own_G p.tables e below s _ _ _ (T201.setTop (mkF m 119 #[.val (.ref a1), .val (.ref b156), .val (.ref b165), .val (.int (1 : Int32))] []))
  refine own_go (fun t k => XS.iinc X201.here hx rfl (hb hby dt3_119) rfl (l' := #[.val (.ref a1), .val (.ref b156), .val (.ref b165), .val (.int (2 : Int32))]) rfl k) ?_
  show own_G p.tables e below s _ _ _ (T201.setTop (mkF m 122 #[.val (.ref a1), .val (.ref b156), .val (.ref b165), .val (.int (2 : Int32))] []))
  refine own_go (fun t k => XS.goto X201.here hx rfl (pc0 := 122) (pc' := 46) rfl (hb hby dt3_122) (by decide) (by decide) k) ?_
  show own_G p.tables e below s _ _ _ (T201.setTop (mkF m 46 #[.val (.ref a1), .val (.ref b156), .val (.ref b165), .val (.int (2 : Int32))] []))
  refine own_go (fun t k => XS.iloadN X201.here hx rfl (hb hby dt3_46) rfl k) ?_
  show own_G p.tables e below s _ _ _ (T201.setTop (mkF m 47 #[.val (.ref a1), .val (.ref b156), .val (.ref b165), .val (.int (2 : Int32))] [(.int (2 : Int32))]))
  refine own_go (fun t k => XS.aloadN X201.here hx rfl (hb hby dt3_47) rfl rfl k) ?_
  show own_G p.tables e below s _ _ _ (T201.setTop (mkF m 48 #[.val (.ref a1), .val (.ref b156), .val (.ref b165), .val (.int (2 : Int32))] [(.ref b156), (.int (2 : Int32))]))
  obtain ⟨cl211, Ar211, q211, S211, NN211, HH211, GG211⟩ := id f204
  have hlen211 := len_of S211 NN211
  refine own_go (A := T201.setTop (mkF m 49 #[.val (.ref a1), .val (.ref b156), .val (.ref b165), .val (.int (2 : Int32))] [(.int (3 : Int32)), (.int (2 : Int32))])) (fun t k => X201.arraylength hx (by rw [e201]; exact Ar211.1) (State.isArrayOf_alike hZ.alike Ar211.2.1) (g := (mkF m 48 #[.val (.ref a1), .val (.ref b156), .val (.ref b165), .val (.int (2 : Int32))] [(.ref b156), (.int (2 : Int32))])) rfl rfl (hb hby dt3_48) _ (by rw [hlen211]; exact k)) ?_
  show own_G p.tables e below s _ _ _ (T201.setTop (mkF m 49 #[.val (.ref a1), .val (.ref b156), .val (.ref b165), .val (.int (2 : Int32))] [(.int (3 : Int32)), (.int (2 : Int32))]))
  refine own_go (fun t k => XS.icmpNo X201.here hx rfl (hb hby dt3_49) rfl (by decide) k) ?_
  show own_G p.tables e below s _ _ _ (T201.setTop (mkF m 52 #[.val (.ref a1), .val (.ref b156), .val (.ref b165), .val (.int (2 : Int32))] []))
  refine own_go (fun t k => XS.aloadN X201.here hx rfl (hb hby dt3_52) rfl rfl k) ?_
  show own_G p.tables e below s _ _ _ (T201.setTop (mkF m 53 #[.val (.ref a1), .val (.ref b156), .val (.ref b165), .val (.int (2 : Int32))] [(.ref b156)]))
  refine own_go (fun t k => XS.iloadN X201.here hx rfl (hb hby dt3_53) rfl k) ?_
  show own_G p.tables e below s _ _ _ (T201.setTop (mkF m 54 #[.val (.ref a1), .val (.ref b156), .val (.ref b165), .val (.int (2 : Int32))] [(.int (2 : Int32)), (.ref b156)]))
  refine own_go (fun t k => XS.aloadN X201.here hx rfl (hb hby dt3_54) rfl rfl k) ?_
  show own_G p.tables e below s _ _ _ (T201.setTop (mkF m 55 #[.val (.ref a1), .val (.ref b156), .val (.ref b165), .val (.int (2 : Int32))] [(.ref a1), (.int (2 : Int32)), (.ref b156)]))
  refine own_go (fun t k => XS.iconst X201.here hx rfl (hb hby dt3_55) k) ?_
  show own_G p.tables e below s _ _ _ (T201.setTop (mkF m 56 #[.val (.ref a1), .val (.ref b156), .val (.ref b165), .val (.int (2 : Int32))] [(.int (2 : Int32)), (.ref a1), (.int (2 : Int32)), (.ref b156)]))
  refine own_go (fun t k => XS.iloadN X201.here hx rfl (hb hby dt3_56) rfl k) ?_
  show own_G p.tables e below s _ _ _ (T201.setTop (mkF m 57 #[.val (.ref a1), .val (.ref b156), .val (.ref b165), .val (.int (2 : Int32))] [(.int (2 : Int32)), (.int (2 : Int32)), (.ref a1), (.int (2 : Int32)), (.ref b156)]))
  refine own_go (fun t k => XS.imul X201.here hx rfl (hb hby dt3_57) rfl k) ?_
  show own_G p.tables e below s _ _ _ (T201.setTop (mkF m 58 #[.val (.ref a1), .val (.ref b156), .val (.ref b165), .val (.int (2 : Int32))] [(.int (4 : Int32)), (.ref a1), (.int (2 : Int32)), (.ref b156)]))
  obtain ⟨cl212, Ar212, q212, S212, NN212, HH212, GG212⟩ := id f203
  have hin212 : ¬ ((4 : Int32) < 0 ∨ cl212.slots.size ≤ ((4 : Int32)).toNatClampNeg) := inb_of S212 ⟨by decide, by decide⟩
  have hat212 : cl212.slots[((4 : Int32)).toNatClampNeg]? = some (.double x2) := Has.at HH212 hin212 rfl
  refine own_go (fun t k => X201.daload hx (j := (4 : Int32)) (v := (.double x2)) (by rw [e201]; exact Ar212.1) (State.isArrayOf_alike hZ.alike Ar212.2.1) Ar212.2.2 hin212 hat212 (g := (mkF m 58 #[.val (.ref a1), .val (.ref b156), .val (.ref b165), .val (.int (2 : Int32))] [(.int (4 : Int32)), (.ref a1), (.int (2 : Int32)), (.ref b156)])) rfl rfl (hb hby dt3_58) _ k) ?_
  show own_G p.tables e below s _ _ _ (T201.setTop (mkF m 59 #[.val (.ref a1), .val (.ref b156), .val (.ref b165), .val (.int (2 : Int32))] [(.double x2), (.int (2 : Int32)), (.ref b156)]))
  obtain ⟨cl213, Ar213, q213, S213, NN213, HH213, GG213⟩ := f204
  have hin213 : ¬ ((2 : Int32) < 0 ∨ cl213.slots.size ≤ ((2 : Int32)).toNatClampNeg) := inb_of S213 ⟨by decide, by decide⟩
  obtain ⟨T213, h213, X213, e213, W213, st213⟩ := stD X201 hx hZ e201 Ar213 (j := (2 : Int32)) hin213 (g := (mkF m 59 #[.val (.ref a1), .val (.ref b156), .val (.ref b165), .val (.int (2 : Int32))] [(.double x2), (.int (2 : Int32)), (.ref b156)])) rfl rfl (hb hby dt3_59)
  refine own_go st213 ?_
  have v214 : Arv Z h213 b156 k156 .double (3 : Int32) [(.double x0), (.double x1), (.double x2)] (.double 0) := Arv.set Ar213 q213 S213 NN213 HH213 GG213 rfl W213 2 rfl (Nat.le_of_ble_eq_true rfl)
  have f215 := f203.other W213 n159
  have f216 := v202.other W213 (Ne.symm n169)
  have z217 := Nat.le_trans z205 (Keep.of_wr W213).1
  have k218 := k206.wr W213 (Or.inr s158)
  have N213 := Fr.snoc X213 N201 g157
  show own_G p.tables e below s _ _ _ (T213.setTop (mkF m 60 #[.val (.ref a1), .val (.ref b156), .val (.ref b165), .val (.int (2 : Int32))] []))
  refine own_go (fun t k => XS.aloadN X213.here hx rfl (hb hby dt3_60) rfl rfl k) ?_
  show own_G p.tables e below s _ _ _ (T213.setTop (mkF m 61 #[.val (.ref a1), .val (.ref b156), .val (.ref b165), .val (.int (2 : Int32))] [(.ref b165)]))
  refine own_go (fun t k => XS.iloadN X213.here hx rfl (hb hby dt3_61) rfl k) ?_
  show own_G p.tables e below s _ _ _ (T213.setTop (mkF m 62 #[.val (.ref a1), .val (.ref b156), .val (.ref b165), .val (.int (2 : Int32))] [(.int (2 : Int32)), (.ref b165)]))
  refine own_go (fun t k => XS.aloadN X213.here hx rfl (hb hby dt3_62) rfl rfl k) ?_
  show own_G p.tables e below s _ _ _ (T213.setTop (mkF m 63 #[.val (.ref a1), .val (.ref b156), .val (.ref b165), .val (.int (2 : Int32))] [(.ref a1), (.int (2 : Int32)), (.ref b165)]))
  refine own_go (fun t k => XS.iconst X213.here hx rfl (hb hby dt3_63) k) ?_
  show own_G p.tables e below s _ _ _ (T213.setTop (mkF m 64 #[.val (.ref a1), .val (.ref b156), .val (.ref b165), .val (.int (2 : Int32))] [(.int (2 : Int32)), (.ref a1), (.int (2 : Int32)), (.ref b165)]))
  refine own_go (fun t k => XS.iloadN X213.here hx rfl (hb hby dt3_64) rfl k) ?_
  show own_G p.tables e below s _ _ _ (T213.setTop (mkF m 65 #[.val (.ref a1), .val (.ref b156), .val (.ref b165), .val (.int (2 : Int32))] [(.int (2 : Int32)), (.int (2 : Int32)), (.ref a1), (.int (2 : Int32)), (.ref b165)]))
  refine own_go (fun t k => XS.imul X213.here hx rfl (hb hby dt3_65) rfl k) ?_
  show own_G p.tables e below s _ _ _ (T213.setTop (mkF m 66 #[.val (.ref a1), .val (.ref b156), .val (.ref b165), .val (.int (2 : Int32))] [(.int (4 : Int32)), (.ref a1), (.int (2 : Int32)), (.ref b165)]))
  refine own_go (fun t k => XS.iconst X213.here hx rfl (hb hby dt3_66) k) ?_
  show own_G p.tables e below s _ _ _ (T213.setTop (mkF m 67 #[.val (.ref a1), .val (.ref b156), .val (.ref b165), .val (.int (2 : Int32))] [(.int (1 : Int32)), (.int (4 : Int32)), (.ref a1), (.int (2 : Int32)), (.ref b165)]))
  refine own_go (fun t k => XS.iadd X213.here hx rfl (hb hby dt3_67) rfl k) ?_
  show own_G p.tables e below s _ _ _ (T213.setTop (mkF m 68 #[.val (.ref a1), .val (.ref b156), .val (.ref b165), .val (.int (2 : Int32))] [(.int (5 : Int32)), (.ref a1), (.int (2 : Int32)), (.ref b165)]))
  obtain ⟨cl219, Ar219, q219, S219, NN219, HH219, GG219⟩ := id f215
  have hin219 : ¬ ((5 : Int32) < 0 ∨ cl219.slots.size ≤ ((5 : Int32)).toNatClampNeg) := inb_of S219 ⟨by decide, by decide⟩
  have hat219 : cl219.slots[((5 : Int32)).toNatClampNeg]? = some (.double y2) := Has.at HH219 hin219 rfl
  refine own_go (fun t k => X213.daload hx (j := (5 : Int32)) (v := (.double y2)) (by rw [e213]; exact Ar219.1) (State.isArrayOf_alike hZ.alike Ar219.2.1) Ar219.2.2 hin219 hat219 (g := (mkF m 68 #[.val (.ref a1), .val (.ref b156), .val (.ref b165), .val (.int (2 : Int32))] [(.int (5 : Int32)), (.ref a1), (.int (2 : Int32)), (.ref b165)])) rfl rfl (hb hby dt3_68) _ k) ?_
  show own_G p.tables e below s _ _ _ (T213.setTop (mkF m 69 #[.val (.ref a1), .val (.ref b156), .val (.ref b165), .val (.int (2 : Int32))] [(.double y2), (.int (2 : Int32)), (.ref b165)]))
  obtain ⟨cl220, Ar220, q220, S220, NN220, HH220, GG220⟩ := f216
  have hin220 : ¬ ((2 : Int32) < 0 ∨ cl220.slots.size ≤ ((2 : Int32)).toNatClampNeg) := inb_of S220 ⟨by decide, by decide⟩
  obtain ⟨T220, h220, X220, e220, W220, st220⟩ := stD X213 hx hZ e213 Ar220 (j := (2 : Int32)) hin220 (g := (mkF m 69 #[.val (.ref a1), .val (.ref b156), .val (.ref b165), .val (.int (2 : Int32))] [(.double y2), (.int (2 : Int32)), (.ref b165)])) rfl rfl (hb hby dt3_69)
  refine own_go st220 ?_
  have v221 : Arv Z h220 b165 k165 .double (3 : Int32) [(.double y0), (.double y1), (.double y2)] (.double 0) := Arv.set Ar220 q220 S220 NN220 HH220 GG220 rfl W220 2 rfl (Nat.le_of_ble_eq_true rfl)
  have f222 := f215.other W220 n168
  have f223 := v214.other W220 n169
  have z224 := Nat.le_trans z217 (Keep.of_wr W220).1
  have k225 := k218.wr W220 (Or.inr s167)
  have N220 := Fr.snoc X220 N213 g166
  show own_G p.tables e below s _ _ _ (T220.setTop (mkF m 70 #[.val (.ref a1), .val (.ref b156), .val (.ref b165), .val (.int (2 : Int32))] []))
  refine own_go (fun t k => XS.iloadN X220.here hx rfl (hb hby dt3_70) rfl k) ?_
  show own_G p.tables e below s _ _ _ (T220.setTop (mkF m 71 #[.val (.ref a1), .val (.ref b156), .val (.ref b165), .val (.int (2 : Int32))] [(.int (2 : Int32))]))
  refine own_go (fun t k => XS.ifNo X220.here hx rfl (hb hby dt3_71) rfl (by decide) k) ?_
  show own_G p.tables e below s _ _ _ (T220.setTop (mkF m 74 #[.val (.ref a1), .val (.ref b156), .val (.ref b165), .val (.int (2 : Int32))] []))
  refine own_go (fun t k => XS.aloadN X220.here hx rfl (hb hby dt3_74) rfl rfl k) ?_
  show own_G p.tables e below s _ _ _ (T220.setTop (mkF m 75 #[.val (.ref a1), .val (.ref b156), .val (.ref b165), .val (.int (2 : Int32))] [(.ref b156)]))
  refine own_go (fun t k => XS.iloadN X220.here hx rfl (hb hby dt3_75) rfl k) ?_
  show own_G p.tables e below s _ _ _ (T220.setTop (mkF m 76 #[.val (.ref a1), .val (.ref b156), .val (.ref b165), .val (.int (2 : Int32))] [(.int (2 : Int32)), (.ref b156)]))
  obtain ⟨cl226, Ar226, q226, S226, NN226, HH226, GG226⟩ := id f223
  have hin226 : ¬ ((2 : Int32) < 0 ∨ cl226.slots.size ≤ ((2 : Int32)).toNatClampNeg) := inb_of S226 ⟨by decide, by decide⟩
  have hat226 : cl226.slots[((2 : Int32)).toNatClampNeg]? = some (.double x2) := Has.at HH226 hin226 rfl
  refine own_go (fun t k => X220.daload hx (j := (2 : Int32)) (v := (.double x2)) (by rw [e220]; exact Ar226.1) (State.isArrayOf_alike hZ.alike Ar226.2.1) Ar226.2.2 hin226 hat226 (g := (mkF m 76 #[.val (.ref a1), .val (.ref b156), .val (.ref b165), .val (.int (2 : Int32))] [(.int (2 : Int32)), (.ref b156)])) rfl rfl (hb hby dt3_76) _ k) ?_
  show own_G p.tables e below s _ _ _ (T220.setTop (mkF m 77 #[.val (.ref a1), .val (.ref b156), .val (.ref b165), .val (.int (2 : Int32))] [(.double x2)]))
  refine own_go (fun t k => XS.aloadN X220.here hx rfl (hb hby dt3_77) rfl rfl k) ?_
  show own_G p.tables e below s _ _ _ (T220.setTop (mkF m 78 #[.val (.ref a1), .val (.ref b156), .val (.ref b165), .val (.int (2 : Int32))] [(.ref b156), (.double x2)]))
  refine own_go (fun t k => XS.iloadN X220.here hx rfl (hb hby dt3_78) rfl k) ?_
  show own_G p.tables e below s _ _ _ (T220.setTop (mkF m 79 #[.val (.ref a1), .val (.ref b156), .val (.ref b165), .val (.int (2 : Int32))] [(.int (2 : Int32)), (.ref b156), (.double x2)]))
  refine own_go (fun t k => XS.iconst X220.here hx rfl (hb hby dt3_79) k) ?_
  show own_G p.tables e below s _ _ _ (T220.setTop (mkF m 80 #[.val (.ref a1), .val (.ref b156), .val (.ref b165), .val (.int (2 : Int32))] [(.int (1 : Int32)), (.int (2 : Int32)), (.ref b156), (.double x2)]))
  refine own_go (fun t k => XS.isub X220.here hx rfl (hb hby dt3_80) rfl k) ?_
  show own_G p.tables e below s _ _ _ (T220.setTop (mkF m 81 #[.val (.ref a1), .val (.ref b156), .val (.ref b165), .val (.int (2 : Int32))] [(.int (1 : Int32)), (.ref b156), (.double x2)]))
  obtain ⟨cl227, Ar227, q227, S227, NN227, HH227, GG227⟩ := id f223
  have hin227 : ¬ ((1 : Int32) < 0 ∨ cl227.slots.size ≤ ((1 : Int32)).toNatClampNeg) := inb_of S227 ⟨by decide, by decide⟩
  have hat227 : cl227.slots[((1 : Int32)).toNatClampNeg]? = some (.double x1) := Has.at HH227 hin227 rfl
  refine own_go (fun t k => X220.daload hx (j := (1 : Int32)) (v := (.double x1)) (by rw [e220]; exact Ar227.1) (State.isArrayOf_alike hZ.alike Ar227.2.1) Ar227.2.2 hin227 hat227 (g := (mkF m 81 #[.val (.ref a1), .val (.ref b156), .val (.ref b165), .val (.int (2 : Int32))] [(.int (1 : Int32)), (.ref b156), (.double x2)])) rfl rfl (hb hby dt3_81) _ k) ?_
  show own_G p.tables e below s _ _ _ (T220.setTop (mkF m 82 #[.val (.ref a1), .val (.ref b156), .val (.ref b165), .val (.int (2 : Int32))] [(.double x1), (.double x2)]))
  refine own_go (fun t k => XS.dcmpS X220.here hx rfl (hb hby dt3_82) rfl (own_cmpv hx2 hx1) k) ?_
  show own_G p.tables e below s _ _ _ (T220.setTop (mkF m 83 #[.val (.ref a1), .val (.ref b156), .val (.ref b165), .val (.int (2 : Int32))] [(.int (own_c (PX2) (PX1)))]))
  refine own_go (fun t k => XS.ifNo X220.here hx rfl (hb hby dt3_83) rfl (Jvm.Free.XT.i0_le_f (own_c_gt hX2)) k) ?_
  show own_G p.tables e below s _ _ _ (T220.setTop (mkF m 86 #[.val (.ref a1), .val (.ref b156), .val (.ref b165), .val (.int (2 : Int32))] []))
  refine own_go (fun t k => XS.aloadN X220.here hx rfl (hb hby dt3_86) rfl rfl k) ?_
  show own_G p.tables e below s _ _ _ (T220.setTop (mkF m 87 #[.val (.ref a1), .val (.ref b156), .val (.ref b165), .val (.int (2 : Int32))] [(.ref b165)]))
  refine own_go (fun t k => XS.iloadN X220.here hx rfl (hb hby dt3_87) rfl k) ?_
  show own_G p.tables e below s _ _ _ (T220.setTop (mkF m 88 #[.val (.ref a1), .val (.ref b156), .val (.ref b165), .val (.int (2 : Int32))] [(.int (2 : Int32)), (.ref b165)]))
  obtain ⟨cl228, Ar228, q228, S228, NN228, HH228, GG228⟩ := id v221
  have hin228 : ¬ ((2 : Int32) < 0 ∨ cl228.slots.size ≤ ((2 : Int32)).toNatClampNeg) := inb_of S228 ⟨by decide, by decide⟩
  have hat228 : cl228.slots[((2 : Int32)).toNatClampNeg]? = some (.double y2) := Has.at HH228 hin228 rfl
  refine own_go (fun t k => X220.daload hx (j := (2 : Int32)) (v := (.double y2)) (by rw [e220]; exact Ar228.1) (State.isArrayOf_alike hZ.alike Ar228.2.1) Ar228.2.2 hin228 hat228 (g := (mkF m 88 #[.val (.ref a1), .val (.ref b156), .val (.ref b165), .val (.int (2 : Int32))] [(.int (2 : Int32)), (.ref b165)])) rfl rfl (hb hby dt3_88) _ k) ?_
  show own_G p.tables e below s _ _ _ (T220.setTop (mkF m 89 #[.val (.ref a1), .val (.ref b156), .val (.ref b165), .val (.int (2 : Int32))] [(.double y2)]))
  refine own_go (fun t k => XS.dconst0 X220.here hx rfl (hb hby dt3_89) rfl k) ?_
  show own_G p.tables e below s _ _ _ (T220.setTop (mkF m 90 #[.val (.ref a1), .val (.ref b156), .val (.ref b165), .val (.int (2 : Int32))] [(.double Jvm.FP.dconst0), (.double y2)]))
  refine own_go (fun t k => XS.dcmpS X220.here hx rfl (hb hby dt3_90) rfl (own_cmpv hy2 own_d0) k) ?_
  show own_G p.tables e below s _ _ _ (T220.setTop (mkF m 91 #[.val (.ref a1), .val (.ref b156), .val (.ref b165), .val (.int (2 : Int32))] [(.int (own_c (PY2) (0)))]))
  refine own_go (fun t k => XS.ifNo X220.here hx rfl (hb hby dt3_91) rfl (Jvm.Free.XT.i0_lt_f (own_c_ge hY2.1)) k) ?_
  show own_G p.tables e below s _ _ _ (T220.setTop (mkF m 94 #[.val (.ref a1), .val (.ref b156), .val (.ref b165), .val (.int (2 : Int32))] []))
  refine own_go (fun t k => XS.aloadN X220.here hx rfl (hb hby dt3_94) rfl rfl k) ?_
  show own_G p.tables e below s _ _ _ (T220.setTop (mkF m 95 #[.val (.ref a1), .val (.ref b156), .val (.ref b165), .val (.int (2 : Int32))] [(.ref b165)]))
  refine own_go (fun t k => XS.iloadN X220.here hx rfl (hb hby dt3_95) rfl k) ?_
  show own_G p.tables e below s _ _ _ (T220.setTop (mkF m 96 #[.val (.ref a1), .val (.ref b156), .val (.ref b165), .val (.int (2 : Int32))] [(.int (2 : Int32)), (.ref b165)]))
  obtain ⟨cl229, Ar229, q229, S229, NN229, HH229, GG229⟩ := id v221
  have hin229 : ¬ ((2 : Int32) < 0 ∨ cl229.slots.size ≤ ((2 : Int32)).toNatClampNeg) := inb_of S229 ⟨by decide, by decide⟩
  have hat229 : cl229.slots[((2 : Int32)).toNatClampNeg]? = some (.double y2) := Has.at HH229 hin229 rfl
  refine own_go (fun t k => X220.daload hx (j := (2 : Int32)) (v := (.double y2)) (by rw [e220]; exact Ar229.1) (State.isArrayOf_alike hZ.alike Ar229.2.1) Ar229.2.2 hin229 hat229 (g := (mkF m 96 #[.val (.ref a1), .val (.ref b156), .val (.ref b165), .val (.int (2 : Int32))] [(.int (2 : Int32)), (.ref b165)])) rfl rfl (hb hby dt3_96) _ k) ?_
  show own_G p.tables e below s _ _ _ (T220.setTop (mkF m 97 #[.val (.ref a1), .val (.ref b156), .val (.ref b165), .val (.int (2 : Int32))] [(.double y2)]))
  refine own_go (fun t k => XS.dconst1 X220.here hx rfl (hb hby dt3_97) rfl k) ?_
  show own_G p.tables e below s _ _ _ (T220.setTop (mkF m 98 #[.val (.ref a1), .val (.ref b156), .val (.ref b165), .val (.int (2 : Int32))] [(.double Jvm.FP.dconst1), (.double y2)]))
  refine own_go (fun t k => XS.dcmpS X220.here hx rfl (hb hby dt3_98) rfl (own_cmpv hy2 own_d1) k) ?_
  show own_G p.tables e below s _ _ _ (T220.setTop (mkF m 99 #[.val (.ref a1), .val (.ref b156), .val (.ref b165), .val (.int (2 : Int32))] [(.int (own_c (PY2) (8)))]))
  refine own_go (fun t k => XS.ifYes X220.here hx rfl (pc0 := 99) (pc' := 119) rfl (hb hby dt3_99) rfl (Jvm.Free.XT.i0_le_t (own_c_le hY2.2)) (by decide) (by decide) k) ?_
  show own_G p.tables e below s _ _ _ (T220.setTop (mkF m 119 #[.val (.ref a1), .val (.ref b156), .val (.ref b165), .val (.int (2 : Int32))] []))
  refine own_go (fun t k => XS.iinc X220.here hx rfl (hb hby dt3_119) rfl (l' := #[.val (.ref a1), .val (.ref b156), .val (.ref b165), .val (.int (3 : Int32))]) rfl k) ?_
  show own_G p.tables e below s _ _ _ (T220.setTop (mkF m 122 #[.val (.ref a1), .val (.ref b156), .val (.ref b165), .val (.int (3 : Int32))] []))
  refine own_go (fun t k => XS.goto X220.here hx rfl (pc0 := 122) (pc' := 46) rfl (hb hby dt3_122) (by decide) (by decide) k) ?_
  show own_G p.tables e below s _ _ _ (T220.setTop (mkF m 46 #[.val (.ref a1), .val (.ref b156), .val (.ref b165), .val (.int (3 : Int32))] []))
  refine own_go (fun t k => XS.iloadN X220.here hx rfl (hb hby dt3_46) rfl k) ?_
  show own_G p.tables e below s _ _ _ (T220.setTop (mkF m 47 #[.val (.ref a1), .val (.ref b156), .val (.ref b165), .val (.int (3 : Int32))] [(.int (3 : Int32))]))
  refine own_go (fun t k => XS.aloadN X220.here hx rfl (hb hby dt3_47) rfl rfl k) ?_
  show own_G p.tables e below s _ _ _ (T220.setTop (mkF m 48 #[.val (.ref a1), .val (.ref b156), .val (.ref b165), .val (.int (3 : Int32))] [(.ref b156), (.int (3 : Int32))]))
  obtain ⟨cl230, Ar230, q230, S230, NN230, HH230, GG230⟩ := id f223
  have hlen230 := len_of S230 NN230
  refine own_go (A := T220.setTop (mkF m 49 #[.val (.ref a1), .val (.ref b156), .val (.ref b165), .val (.int (3 : Int32))] [(.int (3 : Int32)), (.int (3 : Int32))])) (fun t k => X220.arraylength hx (by rw [e220]; exact Ar230.1) (State.isArrayOf_alike hZ.alike Ar230.2.1) (g := (mkF m 48 #[.val (.ref a1), .val (.ref b156), .val (.ref b165), .val (.int (3 : Int32))] [(.ref b156), (.int (3 : Int32))])) rfl rfl (hb hby dt3_48) _ (by rw [hlen230]; exact k)) ?_
  show own_G p.tables e below s _ _ _ (T220.setTop (mkF m 49 #[.val (.ref a1), .val (.ref b156), .val (.ref b165), .val (.int (3 : Int32))] [(.int (3 : Int32)), (.int (3 : Int32))]))
  refine own_go (fun t k => XS.icmpYes X220.here hx rfl (pc0 := 49) (pc' := 125) rfl (hb hby dt3_49) rfl (by decide) (by decide) (by decide) k) ?_
  show own_G p.tables e below s _ _ _ (T220.setTop (mkF m 125 #[.val (.ref a1), .val (.ref b156), .val (.ref b165), .val (.int (3 : Int32))] []))
  obtain ⟨T231, h231, X231, e231, E231, A231, D231, -, st231⟩ := newO X220 hx hZ hown (hw _ (List.mem_of_getElem? (i := 8) rfl)) (hw _ (List.mem_of_getElem? (i := 9) rfl)) (hw _ (List.mem_of_getElem? (i := 6) rfl)) e220 (g := (mkF m 125 #[.val (.ref a1), .val (.ref b156), .val (.ref b165), .val (.int (3 : Int32))] [])) rfl (hb hby dt3_125) (by decide) (by decide)
  obtain ⟨b231, g231⟩ : ∃ z, z = h220.size := ⟨_, rfl⟩
  rw [← g231] at A231 D231 st231
  refine own_go st231 ?_
  have g232 := Nat.le_trans z224 (Nat.le_of_eq g231.symm)
  have s233 := Nat.le_trans k225.1 (Nat.le_of_eq g231.symm)
  have n234 := Nat.ne_of_lt (Nat.lt_of_lt_of_le f222.lt (Nat.le_of_eq g231.symm))
  have n235 := Nat.ne_of_lt (Nat.lt_of_lt_of_le f223.lt (Nat.le_of_eq g231.symm))
  have n236 := Nat.ne_of_lt (Nat.lt_of_lt_of_le v221.lt (Nat.le_of_eq g231.symm))
  have f237 := f222.ext E231
  have f238 := f223.ext E231
  have f239 := v221.ext E231
  have z240 := Nat.le_trans z224 E231.1
  have k241 := k225.ext E231
  have f242 : Fld Z h231 b231 "com/example/options_into_arguments/optionsintoarguments/quality/Curve" "xs" "[D" .null := D231 (Or.inr (hw _ (List.mem_of_getElem? (i := 17) rfl))) (ty := (.array .double)) (by decide)
  have f243 : Fld Z h231 b231 "com/example/options_into_arguments/optionsintoarguments/quality/Curve" "ys" "[D" .null := D231 (Or.inr (hw _ (List.mem_of_getElem? (i := 19) rfl))) (ty := (.array .double)) (by decide)
  show own_G p.tables e below s _ _ _ (T231.setTop (mkF m 128 #[.val (.ref a1), .val (.ref b156), .val (.ref b165), .val (.int (3 : Int32))] [(.ref b231)]))
  refine own_go (fun t k => XS.dup X231.here hx rfl (hb hby dt3_128) rfl rfl k) ?_
  show own_G p.tables e below s _ _ _ (T231.setTop (mkF m 129 #[.val (.ref a1), .val (.ref b156), .val (.ref b165), .val (.int (3 : Int32))] [(.ref b231), (.ref b231)]))
  refine own_go (fun t k => XS.aloadN X231.here hx rfl (hb hby dt3_129) rfl rfl k) ?_
  show own_G p.tables e below s _ _ _ (T231.setTop (mkF m 130 #[.val (.ref a1), .val (.ref b156), .val (.ref b165), .val (.int (3 : Int32))] [(.ref b156), (.ref b231), (.ref b231)]))
  refine own_go (fun t k => XS.aloadN X231.here hx rfl (hb hby dt3_130) rfl rfl k) ?_
  show own_G p.tables e below s _ _ _ (T231.setTop (mkF m 131 #[.val (.ref a1), .val (.ref b156), .val (.ref b165), .val (.int (3 : Int32))] [(.ref b165), (.ref b156), (.ref b231), (.ref b231)]))
  obtain ⟨_, _, ⟨T244, L244, k244, n244⟩, -, X244, ⟨Lc244, hQ244, l244, y244, z244⟩, st244⟩ := X231.specialBack hx (y := (⟨"com/example/options_into_arguments/optionsintoarguments/quality/Curve", "<init>", "([D[D)V"⟩ : MethodName)) rfl hown (mvT hZ (hw _ (List.mem_of_getElem? (i := 10) rfl))) (mvT hZ (hw _ (List.mem_of_getElem? (i := 11) rfl))) (mvT hZ (hw _ (List.mem_of_getElem? (i := 12) rfl))) (by decide) (backOf (W := 1) (rmi l Z a0 hw [] b231 b156 b165 h231 n0 z240 A231 f242 f243 g232) hZ (hw _ (List.mem_of_getElem? (i := 12) rfl)) (hw _ (List.mem_of_getElem? (i := 6) rfl)) (by decide) (by decide)) (g := (mkF m 131 #[.val (.ref a1), .val (.ref b156), .val (.ref b165), .val (.int (3 : Int32))] [(.ref b165), (.ref b156), (.ref b231), (.ref b231)])) rfl (by rw [hml]; rfl) (Steps.refl _) (a := b231) (argsL := [(.ref b156), (.ref b165)]) (rest := [(.ref b231)]) (lenOf pd___D_D_V rfl) rfl (by show 2 * 0 + _ ≤ _; exact Nat.le_of_eq rfl) (hb hby dt3_131) (fun _ _ => ⟨rfl, e231, (by decide : 3 + 0 ≤ _), (by decide : 8 + 0 ≤ _)⟩)
  dsimp only [Pt.U, Pt.locs, Pt.cells, Pt.slots] at X244 l244 y244 z244 st244 hQ244
  subst l244 y244 z244
  obtain ⟨rfl, N244q, K244, Fx244, Fy244⟩ := hQ244
  have N244 := Fr.app N220 N244q
  refine own_go (fun t k => st244.trans k) ?_
  have f245 := f237.keep K244 (fun q => (List.mem_cons.mp q).elim n234 (fun q => nomatch q))
  have f246 := f238.keep K244 (fun q => (List.mem_cons.mp q).elim n235 (fun q => nomatch q))
  have f247 := f239.keep K244 (fun q => (List.mem_cons.mp q).elim n236 (fun q => nomatch q))
  have f248 := A231.keep K244
  have z249 := Nat.le_trans z240 K244.1
  have k250 := k241.trans K244 (fun x => (fun q => (List.mem_cons.mp q).elim (fun e => e ▸ Or.inr s233) (fun q => nomatch q)))
  show own_G p.tables e below s _ _ _ (T244.setTop (mkF m 134 #[.val (.ref a1), .val (.ref b156), .val (.ref b165), .val (.int (3 : Int32))] [(.ref b231)]))
  exact own_retA X244 hx hlk Bd.returns rfl rfl (hb hby dt3_134) (⟨⟨_, _, _, _, _, rfl, f248, Fx244, Fy244, f246, f247⟩, N244, k250⟩) (by decide) (by decide)
theorem dA1_0 : decode prog_17_method_3_code 0 = .ok (.aload_n 0, 1) := by decide +kernel
theorem dA1_1 : decode prog_17_method_3_code 1 = .ok (.getfield 7, 3) := by decide +kernel
theorem dA1_4 : decode prog_17_method_3_code 4 = .ok (.arraylength, 1) := by decide +kernel
theorem dA1_5 : decode prog_17_method_3_code 5 = .ok (.iconst 1, 1) := by decide +kernel
theorem dA1_6 : decode prog_17_method_3_code 6 = .ok (.isub, 1) := by decide +kernel
theorem dA1_7 : decode prog_17_method_3_code 7 = .ok (.istore_n 3, 1) := by decide +kernel
theorem dA1_8 : decode prog_17_method_3_code 8 = .ok (.dload_n 1, 1) := by decide +kernel
theorem dA1_9 : decode prog_17_method_3_code 9 = .ok (.aload_n 0, 1) := by decide +kernel
theorem dA1_10 : decode prog_17_method_3_code 10 = .ok (.getfield 7, 3) := by decide +kernel
theorem dA1_13 : decode prog_17_method_3_code 13 = .ok (.iconst 0, 1) := by decide +kernel
theorem dA1_14 : decode prog_17_method_3_code 14 = .ok (.daload, 1) := by decide +kernel
theorem dA1_15 : decode prog_17_method_3_code 15 = .ok (.dcmp .g, 1) := by decide +kernel
theorem dA1_16 : decode prog_17_method_3_code 16 = .ok (.ifCond .gt 14, 3) := by decide +kernel
theorem dA1_19 : decode prog_17_method_3_code 19 = .ok (.aload_n 0, 1) := by decide +kernel
theorem dA1_20 : decode prog_17_method_3_code 20 = .ok (.getfield 13, 3) := by decide +kernel
theorem dA1_23 : decode prog_17_method_3_code 23 = .ok (.iconst 0, 1) := by decide +kernel
theorem dA1_24 : decode prog_17_method_3_code 24 = .ok (.daload, 1) := by decide +kernel
theorem dA1_25 : decode prog_17_method_3_code 25 = .ok (.dstore 4, 2) := by decide +kernel
theorem dA1_27 : decode prog_17_method_3_code 27 = .ok (.goto 105, 3) := by decide +kernel
theorem dA1_132 : decode prog_17_method_3_code 132 = .ok (.dload 4, 2) := by decide +kernel
theorem dA1_134 : decode prog_17_method_3_code 134 = .ok (.dreturn, 1) := by decide +kernel
theorem ef_A1 (m : MethodId) (x0 : Addr) (x1 : UInt64) : entryFrame m #[(.ref x0), (.double x1)] 7 = mkF m 0 #[.val (.ref x0), .val (.double x1), .second, .unset, .unset, .unset, .unset] [] := by first | (simp [entryFrame, mkF, argsToLocals, Value.category]; done) | rfl
def QA1 (Z : State) (a1 xa ya : Addr) (kx ky : ClassId) (x : UInt64) (X : Int) (x0 y0 : UInt64) (PX0 PY0 : Int) (h0 : Heap) (n0 : Nat) (v : Option Value) (h : Heap) (L : List Loc) : Prop := (∃ w : UInt64, v = some (.double w) ∧ own_E (PY0) w) ∧ Fr n0 L ∧ h = h0
set_option maxRecDepth 65536 in
set_option maxHeartbeats 40000000 in
theorem rmA1 (l : Launch) (Z : State) (a0 : Array Value) (hw : ∀ d ∈ tables_1, d.before a0 Z = true) (ws : List Jvm.Cond) (a1 xa ya : Addr) (kx ky : ClassId) (x : UInt64) (X : Int) (x0 y0 : UInt64) (PX0 PY0 : Int) (h0 : Heap) (n0 : Nat) (Z0 : n0 ≤ h0.size) (hxx : own_E X x) (hx0 : own_E PX0 x0) (hy0 : own_E PY0 y0) (F1 : Fld Z h0 a1 "com/example/options_into_arguments/optionsintoarguments/quality/Curve" "xs" "[D" (.ref xa)) (F2 : Fld Z h0 a1 "com/example/options_into_arguments/optionsintoarguments/quality/Curve" "ys" "[D" (.ref ya)) (V1 : Arv Z h0 xa kx .double (1 : Int32) [(.double x0)] (.double 0)) (V2 : Arv Z h0 ya ky .double (1 : Int32) [(.double y0)] (.double 0)) (hA : X ≤ PX0) :
    MetFree l (⟨"com/example/options_into_arguments/optionsintoarguments/quality/Curve", "at", "(D)D"⟩ : MethodName) (head1 (Jvm.Cond.code (⟨"com/example/options_into_arguments/optionsintoarguments/quality/Curve", "at", "(D)D"⟩ : MethodName) prog_17_method_3_code 7 (some .double) :: ws) ({ frames := 0, cells := 0, slots := 0, locals := 0 } : Room)) (fun a U => a = #[(.ref a1), (.double x)] ∧ Z.Warmed39 U.vm ∧ U.heap = h0) (fun _ _ _ _ _ => True) (fun _ U o U' => ∃ v L, o = .returned v ∧ QA1 Z a1 xa ya kx ky x X x0 y0 PX0 PY0 h0 n0 v U'.heap L ∧ FrameEnd U o U' L ({ frames := 0, cells := 0, slots := 0, locals := 0 } : Room).cells ({ frames := 0, cells := 0, slots := 0, locals := 0 } : Room).slots) := by
  refine MetFree.of_bodySF (plainFor_of_name pn_com_example_options_into_arguments_optionsintoarguments_quality_Curve) hisR ?_
  intro p e s m args below meth c s₁ Bd hml0 hP hK
  obtain ⟨rfl, hZ, hh⟩ := hP
  have hx := Bd.exec
  have hby := Bd.bytes
  have hlk : meth.locks = false := BodyLoose.notSynchronized Bd
  have hml : c.maxLocals = 7 := hml0
  have hown : s.vm.findClass "com/example/options_into_arguments/optionsintoarguments/quality/Curve" = some m.cls := findClass_of_methodNamed Bd.named
  have hnm := (name_of_methodNamed Bd.named Bd.method).1
  have X0 : Stand p l e ({ frames := 0, cells := 0, slots := 0, locals := 0 } : Room) s m #[(.ref a1), (.double x)] below meth c s₁ [] 0 0 := Stand.of_body Bd
  have e0 : s₁.heap = h0 := by rw [← hh, Bd.state]; rfl
  have N0 := Fr.nil n0
  show own_G p.tables e below s (QA1 Z a1 xa ya kx ky x X x0 y0 PX0 PY0 h0 n0) ({ frames := 0, cells := 0, slots := 0, locals := 0 } : Room).cells ({ frames := 0, cells := 0, slots := 0, locals := 0 } : Room).slots (s₁.setTop (entryFrame m #[(.ref a1), (.double x)] 7))
  refine own_go (fun t k => castTop (ef_A1 m a1 x) k) ?_
  show own_G p.tables e below s _ _ _ (s₁.setTop (mkF m 0 #[.val (.ref a1), .val (.double x), .second, .unset, .unset, .unset, .unset] []))
  refine own_go (fun t k => XS.aloadN X0.here hx rfl (hb hby dA1_0) rfl rfl k) ?_
  show own_G p.tables e below s _ _ _ (s₁.setTop (mkF m 1 #[.val (.ref a1), .val (.double x), .second, .unset, .unset, .unset, .unset] [(.ref a1)]))
  obtain ⟨T251, X251, e251, st251⟩ := getF X0 hx hZ hown (host := "") (Or.inl (hw _ (List.mem_of_getElem? (i := 16) rfl))) Via.refl e0 F1 (g := (mkF m 1 #[.val (.ref a1), .val (.double x), .second, .unset, .unset, .unset, .unset] [(.ref a1)])) rfl rfl (hb hby dA1_1)
  refine own_go st251 ?_
  show own_G p.tables e below s _ _ _ (T251.setTop (mkF m 4 #[.val (.ref a1), .val (.double x), .second, .unset, .unset, .unset, .unset] [(.ref xa)]))
  obtain ⟨cl252, Ar252, q252, S252, NN252, HH252, GG252⟩ := id V1
  have hlen252 := len_of S252 NN252
  refine own_go (A := T251.setTop (mkF m 5 #[.val (.ref a1), .val (.double x), .second, .unset, .unset, .unset, .unset] [(.int (1 : Int32))])) (fun t k => X251.arraylength hx (by rw [e251]; exact Ar252.1) (State.isArrayOf_alike hZ.alike Ar252.2.1) (g := (mkF m 4 #[.val (.ref a1), .val (.double x), .second, .unset, .unset, .unset, .unset] [(.ref xa)])) rfl rfl (hb hby dA1_4) _ (by rw [hlen252]; exact k)) ?_
  show own_G p.tables e below s _ _ _ (T251.setTop (mkF m 5 #[.val (.ref a1), .val (.double x), .second, .unset, .unset, .unset, .unset] [(.int (1 : Int32))]))
  refine own_go (fun t k => XS.iconst X251.here hx rfl (hb hby dA1_5) k) ?_
  show own_G p.tables e below s _ _ _ (T251.setTop (mkF m 6 #[.val (.ref a1), .val (.double x), .second, .unset, .unset, .unset, .unset] [(.int (1 : Int32)), (.int (1 : Int32))]))
  refine own_go (fun t k => XS.isub X251.here hx rfl (hb hby dA1_6) rfl k) ?_
  show own_G p.tables e below s _ _ _ (T251.setTop (mkF m 7 #[.val (.ref a1), .val (.double x), .second, .unset, .unset, .unset, .unset] [(.int (0 : Int32))]))
  refine own_go (fun t k => XS.istoreN X251.here hx rfl (hb hby dA1_7) rfl (l' := #[.val (.ref a1), .val (.double x), .second, .val (.int (0 : Int32)), .unset, .unset, .unset]) rfl k) ?_
  show own_G p.tables e below s _ _ _ (T251.setTop (mkF m 8 #[.val (.ref a1), .val (.double x), .second, .val (.int (0 : Int32)), .unset, .unset, .unset] []))
  refine own_go (fun t k => XS.dloadN X251.here hx rfl (hb hby dA1_8) rfl k) ?_
  show own_G p.tables e below s _ _ _ (T251.setTop (mkF m 9 #[.val (.ref a1), .val (.double x), .second, .val (.int (0 : Int32)), .unset, .unset, .unset] [(.double x)]))
  refine own_go (fun t k => XS.aloadN X251.here hx rfl (hb hby dA1_9) rfl rfl k) ?_
  show own_G p.tables e below s _ _ _ (T251.setTop (mkF m 10 #[.val (.ref a1), .val (.double x), .second, .val (.int (0 : Int32)), .unset, .unset, .unset] [(.ref a1), (.double x)]))
  obtain ⟨T253, X253, e253, st253⟩ := getF X251 hx hZ hown (host := "") (Or.inl (hw _ (List.mem_of_getElem? (i := 16) rfl))) Via.refl e251 F1 (g := (mkF m 10 #[.val (.ref a1), .val (.double x), .second, .val (.int (0 : Int32)), .unset, .unset, .unset] [(.ref a1), (.double x)])) rfl rfl (hb hby dA1_10)
  refine own_go st253 ?_
  show own_G p.tables e below s _ _ _ (T253.setTop (mkF m 13 #[.val (.ref a1), .val (.double x), .second, .val (.int (0 : Int32)), .unset, .unset, .unset] [(.ref xa), (.double x)]))
  refine own_go (fun t k => XS.iconst X253.here hx rfl (hb hby dA1_13) k) ?_
  show own_G p.tables e below s _ _ _ (T253.setTop (mkF m 14 #[.val (.ref a1), .val (.double x), .second, .val (.int (0 : Int32)), .unset, .unset, .unset] [(.int (0 : Int32)), (.ref xa), (.double x)]))
  obtain ⟨cl254, Ar254, q254, S254, NN254, HH254, GG254⟩ := id V1
  have hin254 : ¬ ((0 : Int32) < 0 ∨ cl254.slots.size ≤ ((0 : Int32)).toNatClampNeg) := inb_of S254 ⟨by decide, by decide⟩
  have hat254 : cl254.slots[((0 : Int32)).toNatClampNeg]? = some (.double x0) := Has.at HH254 hin254 rfl
  refine own_go (fun t k => X253.daload hx (j := (0 : Int32)) (v := (.double x0)) (by rw [e253]; exact Ar254.1) (State.isArrayOf_alike hZ.alike Ar254.2.1) Ar254.2.2 hin254 hat254 (g := (mkF m 14 #[.val (.ref a1), .val (.double x), .second, .val (.int (0 : Int32)), .unset, .unset, .unset] [(.int (0 : Int32)), (.ref xa), (.double x)])) rfl rfl (hb hby dA1_14) _ k) ?_
  show own_G p.tables e below s _ _ _ (T253.setTop (mkF m 15 #[.val (.ref a1), .val (.double x), .second, .val (.int (0 : Int32)), .unset, .unset, .unset] [(.double x0), (.double x)]))
  refine own_go (fun t k => XS.dcmpS X253.here hx rfl (hb hby dA1_15) rfl (own_cmpv hxx hx0) k) ?_
  show own_G p.tables e below s _ _ _ (T253.setTop (mkF m 16 #[.val (.ref a1), .val (.double x), .second, .val (.int (0 : Int32)), .unset, .unset, .unset] [(.int (own_c (X) (PX0)))]))
  refine own_go (fun t k => XS.ifNo X253.here hx rfl (hb hby dA1_16) rfl (Jvm.Free.XT.i0_gt_f (own_c_le hA)) k) ?_
  show own_G p.tables e below s _ _ _ (T253.setTop (mkF m 19 #[.val (.ref a1), .val (.double x), .second, .val (.int (0 : Int32)), .unset, .unset, .unset] []))
  refine own_go (fun t k => XS.aloadN X253.here hx rfl (hb hby dA1_19) rfl rfl k) ?_
  show own_G p.tables e below s _ _ _ (T253.setTop (mkF m 20 #[.val (.ref a1), .val (.double x), .second, .val (.int (0 : Int32)), .unset, .unset, .unset] [(.ref a1)]))
  obtain ⟨T255, X255, e255, st255⟩ := getF X253 hx hZ hown (host := "") (Or.inl (hw _ (List.mem_of_getElem? (i := 18) rfl))) Via.refl e253 F2 (g := (mkF m 20 #[.val (.ref a1), .val (.double x), .second, .val (.int (0 : Int32)), .unset, .unset, .unset] [(.ref a1)])) rfl rfl (hb hby dA1_20)
  refine own_go st255 ?_
  show own_G p.tables e below s _ _ _ (T255.setTop (mkF m 23 #[.val (.ref a1), .val (.double x), .second, .val (.int (0 : Int32)), .unset, .unset, .unset] [(.ref ya)]))
  refine own_go (fun t k => XS.iconst X255.here hx rfl (hb hby dA1_23) k) ?_
  show own_G p.tables e below s _ _ _ (T255.setTop (mkF m 24 #[.val (.ref a1), .val (.double x), .second, .val (.int (0 : Int32)), .unset, .unset, .unset] [(.int (0 : Int32)), (.ref ya)]))
  obtain ⟨cl256, Ar256, q256, S256, NN256, HH256, GG256⟩ := id V2
  have hin256 : ¬ ((0 : Int32) < 0 ∨ cl256.slots.size ≤ ((0 : Int32)).toNatClampNeg) := inb_of S256 ⟨by decide, by decide⟩
  have hat256 : cl256.slots[((0 : Int32)).toNatClampNeg]? = some (.double y0) := Has.at HH256 hin256 rfl
  refine own_go (fun t k => X255.daload hx (j := (0 : Int32)) (v := (.double y0)) (by rw [e255]; exact Ar256.1) (State.isArrayOf_alike hZ.alike Ar256.2.1) Ar256.2.2 hin256 hat256 (g := (mkF m 24 #[.val (.ref a1), .val (.double x), .second, .val (.int (0 : Int32)), .unset, .unset, .unset] [(.int (0 : Int32)), (.ref ya)])) rfl rfl (hb hby dA1_24) _ k) ?_
  show own_G p.tables e below s _ _ _ (T255.setTop (mkF m 25 #[.val (.ref a1), .val (.double x), .second, .val (.int (0 : Int32)), .unset, .unset, .unset] [(.double y0)]))
  refine own_go (fun t k => XS.dstore X255.here hx rfl (hb hby dA1_25) rfl (l' := #[.val (.ref a1), .val (.double x), .second, .val (.int (0 : Int32)), .val (.double y0), .second, .unset]) rfl k) ?_
  show own_G p.tables e below s _ _ _ (T255.setTop (mkF m 27 #[.val (.ref a1), .val (.double x), .second, .val (.int (0 : Int32)), .val (.double y0), .second, .unset] []))
  refine own_go (fun t k => XS.goto X255.here hx rfl (pc0 := 27) (pc' := 132) rfl (hb hby dA1_27) (by decide) (by decide) k) ?_
  show own_G p.tables e below s _ _ _ (T255.setTop (mkF m 132 #[.val (.ref a1), .val (.double x), .second, .val (.int (0 : Int32)), .val (.double y0), .second, .unset] []))
  refine own_go (fun t k => XS.dload X255.here hx rfl (hb hby dA1_132) rfl k) ?_
  show own_G p.tables e below s _ _ _ (T255.setTop (mkF m 134 #[.val (.ref a1), .val (.double x), .second, .val (.int (0 : Int32)), .val (.double y0), .second, .unset] [(.double y0)]))
  exact own_retD X255 hx hlk Bd.returns (hb hby dA1_134) (by rw [e255]; exact ⟨⟨_, rfl, hy0⟩, N0, rfl⟩) (by decide) (by decide)
theorem dB1_0 : decode prog_17_method_3_code 0 = .ok (.aload_n 0, 1) := by decide +kernel
theorem dB1_1 : decode prog_17_method_3_code 1 = .ok (.getfield 7, 3) := by decide +kernel
theorem dB1_4 : decode prog_17_method_3_code 4 = .ok (.arraylength, 1) := by decide +kernel
theorem dB1_5 : decode prog_17_method_3_code 5 = .ok (.iconst 1, 1) := by decide +kernel
theorem dB1_6 : decode prog_17_method_3_code 6 = .ok (.isub, 1) := by decide +kernel
theorem dB1_7 : decode prog_17_method_3_code 7 = .ok (.istore_n 3, 1) := by decide +kernel
theorem dB1_8 : decode prog_17_method_3_code 8 = .ok (.dload_n 1, 1) := by decide +kernel
theorem dB1_9 : decode prog_17_method_3_code 9 = .ok (.aload_n 0, 1) := by decide +kernel
theorem dB1_10 : decode prog_17_method_3_code 10 = .ok (.getfield 7, 3) := by decide +kernel
theorem dB1_13 : decode prog_17_method_3_code 13 = .ok (.iconst 0, 1) := by decide +kernel
theorem dB1_14 : decode prog_17_method_3_code 14 = .ok (.daload, 1) := by decide +kernel
theorem dB1_15 : decode prog_17_method_3_code 15 = .ok (.dcmp .g, 1) := by decide +kernel
theorem dB1_16 : decode prog_17_method_3_code 16 = .ok (.ifCond .gt 14, 3) := by decide +kernel
theorem dB1_30 : decode prog_17_method_3_code 30 = .ok (.dload_n 1, 1) := by decide +kernel
theorem dB1_31 : decode prog_17_method_3_code 31 = .ok (.aload_n 0, 1) := by decide +kernel
theorem dB1_32 : decode prog_17_method_3_code 32 = .ok (.getfield 7, 3) := by decide +kernel
theorem dB1_35 : decode prog_17_method_3_code 35 = .ok (.iload_n 3, 1) := by decide +kernel
theorem dB1_36 : decode prog_17_method_3_code 36 = .ok (.daload, 1) := by decide +kernel
theorem dB1_37 : decode prog_17_method_3_code 37 = .ok (.dcmp .l, 1) := by decide +kernel
theorem dB1_38 : decode prog_17_method_3_code 38 = .ok (.ifCond .lt 14, 3) := by decide +kernel
theorem dB1_41 : decode prog_17_method_3_code 41 = .ok (.aload_n 0, 1) := by decide +kernel
theorem dB1_42 : decode prog_17_method_3_code 42 = .ok (.getfield 13, 3) := by decide +kernel
theorem dB1_45 : decode prog_17_method_3_code 45 = .ok (.iload_n 3, 1) := by decide +kernel
theorem dB1_46 : decode prog_17_method_3_code 46 = .ok (.daload, 1) := by decide +kernel
theorem dB1_47 : decode prog_17_method_3_code 47 = .ok (.dstore 4, 2) := by decide +kernel
theorem dB1_49 : decode prog_17_method_3_code 49 = .ok (.goto 83, 3) := by decide +kernel
theorem dB1_132 : decode prog_17_method_3_code 132 = .ok (.dload 4, 2) := by decide +kernel
theorem dB1_134 : decode prog_17_method_3_code 134 = .ok (.dreturn, 1) := by decide +kernel
theorem ef_B1 (m : MethodId) (x0 : Addr) (x1 : UInt64) : entryFrame m #[(.ref x0), (.double x1)] 7 = mkF m 0 #[.val (.ref x0), .val (.double x1), .second, .unset, .unset, .unset, .unset] [] := by first | (simp [entryFrame, mkF, argsToLocals, Value.category]; done) | rfl
def QB1 (Z : State) (a1 xa ya : Addr) (kx ky : ClassId) (x : UInt64) (X : Int) (x0 y0 : UInt64) (PX0 PY0 : Int) (h0 : Heap) (n0 : Nat) (v : Option Value) (h : Heap) (L : List Loc) : Prop := (∃ w : UInt64, v = some (.double w) ∧ own_E (PY0) w) ∧ Fr n0 L ∧ h = h0
set_option maxRecDepth 65536 in
set_option maxHeartbeats 40000000 in
theorem rmB1 (l : Launch) (Z : State) (a0 : Array Value) (hw : ∀ d ∈ tables_1, d.before a0 Z = true) (ws : List Jvm.Cond) (a1 xa ya : Addr) (kx ky : ClassId) (x : UInt64) (X : Int) (x0 y0 : UInt64) (PX0 PY0 : Int) (h0 : Heap) (n0 : Nat) (Z0 : n0 ≤ h0.size) (hxx : own_E X x) (hx0 : own_E PX0 x0) (hy0 : own_E PY0 y0) (F1 : Fld Z h0 a1 "com/example/options_into_arguments/optionsintoarguments/quality/Curve" "xs" "[D" (.ref xa)) (F2 : Fld Z h0 a1 "com/example/options_into_arguments/optionsintoarguments/quality/Curve" "ys" "[D" (.ref ya)) (V1 : Arv Z h0 xa kx .double (1 : Int32) [(.double x0)] (.double 0)) (V2 : Arv Z h0 ya ky .double (1 : Int32) [(.double y0)] (.double 0)) (hB : PX0 < X) (hB2 : PX0 ≤ X) :
    MetFree l (⟨"com/example/options_into_arguments/optionsintoarguments/quality/Curve", "at", "(D)D"⟩ : MethodName) (head1 (Jvm.Cond.code (⟨"com/example/options_into_arguments/optionsintoarguments/quality/Curve", "at", "(D)D"⟩ : MethodName) prog_17_method_3_code 7 (some .double) :: ws) ({ frames := 0, cells := 0, slots := 0, locals := 0 } : Room)) (fun a U => a = #[(.ref a1), (.double x)] ∧ Z.Warmed39 U.vm ∧ U.heap = h0) (fun _ _ _ _ _ => True) (fun _ U o U' => ∃ v L, o = .returned v ∧ QB1 Z a1 xa ya kx ky x X x0 y0 PX0 PY0 h0 n0 v U'.heap L ∧ FrameEnd U o U' L ({ frames := 0, cells := 0, slots := 0, locals := 0 } : Room).cells ({ frames := 0, cells := 0, slots := 0, locals := 0 } : Room).slots) := by
  refine MetFree.of_bodySF (plainFor_of_name pn_com_example_options_into_arguments_optionsintoarguments_quality_Curve) hisR ?_
  intro p e s m args below meth c s₁ Bd hml0 hP hK
  obtain ⟨rfl, hZ, hh⟩ := hP
  have hx := Bd.exec
  have hby := Bd.bytes
  have hlk : meth.locks = false := BodyLoose.notSynchronized Bd
  have hml : c.maxLocals = 7 := hml0
  have hown : s.vm.findClass "com/example/options_into_arguments/optionsintoarguments/quality/Curve" = some m.cls := findClass_of_methodNamed Bd.named
  have hnm := (name_of_methodNamed Bd.named Bd.method).1
  have X0 : Stand p l e ({ frames := 0, cells := 0, slots := 0, locals := 0 } : Room) s m #[(.ref a1), (.double x)] below meth c s₁ [] 0 0 := Stand.of_body Bd
  have e0 : s₁.heap = h0 := by rw [← hh, Bd.state]; rfl
  have N0 := Fr.nil n0
  show own_G p.tables e below s (QB1 Z a1 xa ya kx ky x X x0 y0 PX0 PY0 h0 n0) ({ frames := 0, cells := 0, slots := 0, locals := 0 } : Room).cells ({ frames := 0, cells := 0, slots := 0, locals := 0 } : Room).slots (s₁.setTop (entryFrame m #[(.ref a1), (.double x)] 7))
  refine own_go (fun t k => castTop (ef_B1 m a1 x) k) ?_
  show own_G p.tables e below s _ _ _ (s₁.setTop (mkF m 0 #[.val (.ref a1), .val (.double x), .second, .unset, .unset, .unset, .unset] []))
  refine own_go (fun t k => XS.aloadN X0.here hx rfl (hb hby dB1_0) rfl rfl k) ?_
  show own_G p.tables e below s _ _ _ (s₁.setTop (mkF m 1 #[.val (.ref a1), .val (.double x), .second, .unset, .unset, .unset, .unset] [(.ref a1)]))
  obtain ⟨T257, X257, e257, st257⟩ := getF X0 hx hZ hown (host := "") (Or.inl (hw _ (List.mem_of_getElem? (i := 16) rfl))) Via.refl e0 F1 (g := (mkF m 1 #[.val (.ref a1), .val (.double x), .second, .unset, .unset, .unset, .unset] [(.ref a1)])) rfl rfl (hb hby dB1_1)
  refine own_go st257 ?_
  show own_G p.tables e below s _ _ _ (T257.setTop (mkF m 4 #[.val (.ref a1), .val (.double x), .second, .unset, .unset, .unset, .unset] [(.ref xa)]))
  obtain ⟨cl258, Ar258, q258, S258, NN258, HH258, GG258⟩ := id V1
  have hlen258 := len_of S258 NN258
  refine own_go (A := T257.setTop (mkF m 5 #[.val (.ref a1), .val (.double x), .second, .unset, .unset, .unset, .unset] [(.int (1 : Int32))])) (fun t k => X257.arraylength hx (by rw [e257]; exact Ar258.1) (State.isArrayOf_alike hZ.alike Ar258.2.1) (g := (mkF m 4 #[.val (.ref a1), .val (.double x), .second, .unset, .unset, .unset, .unset] [(.ref xa)])) rfl rfl (hb hby dB1_4) _ (by rw [hlen258]; exact k)) ?_
  show own_G p.tables e below s _ _ _ (T257.setTop (mkF m 5 #[.val (.ref a1), .val (.double x), .second, .unset, .unset, .unset, .unset] [(.int (1 : Int32))]))
  refine own_go (fun t k => XS.iconst X257.here hx rfl (hb hby dB1_5) k) ?_
  show own_G p.tables e below s _ _ _ (T257.setTop (mkF m 6 #[.val (.ref a1), .val (.double x), .second, .unset, .unset, .unset, .unset] [(.int (1 : Int32)), (.int (1 : Int32))]))
  refine own_go (fun t k => XS.isub X257.here hx rfl (hb hby dB1_6) rfl k) ?_
  show own_G p.tables e below s _ _ _ (T257.setTop (mkF m 7 #[.val (.ref a1), .val (.double x), .second, .unset, .unset, .unset, .unset] [(.int (0 : Int32))]))
  refine own_go (fun t k => XS.istoreN X257.here hx rfl (hb hby dB1_7) rfl (l' := #[.val (.ref a1), .val (.double x), .second, .val (.int (0 : Int32)), .unset, .unset, .unset]) rfl k) ?_
  show own_G p.tables e below s _ _ _ (T257.setTop (mkF m 8 #[.val (.ref a1), .val (.double x), .second, .val (.int (0 : Int32)), .unset, .unset, .unset] []))
  refine own_go (fun t k => XS.dloadN X257.here hx rfl (hb hby dB1_8) rfl k) ?_
  show own_G p.tables e below s _ _ _ (T257.setTop (mkF m 9 #[.val (.ref a1), .val (.double x), .second, .val (.int (0 : Int32)), .unset, .unset, .unset] [(.double x)]))
  refine own_go (fun t k => XS.aloadN X257.here hx rfl (hb hby dB1_9) rfl rfl k) ?_
  show own_G p.tables e below s _ _ _ (T257.setTop (mkF m 10 #[.val (.ref a1), .val (.double x), .second, .val (.int (0 : Int32)), .unset, .unset, .unset] [(.ref a1), (.double x)]))
  obtain ⟨T259, X259, e259, st259⟩ := getF X257 hx hZ hown (host := "") (Or.inl (hw _ (List.mem_of_getElem? (i := 16) rfl))) Via.refl e257 F1 (g := (mkF m 10 #[.val (.ref a1), .val (.double x), .second, .val (.int (0 : Int32)), .unset, .unset, .unset] [(.ref a1), (.double x)])) rfl rfl (hb hby dB1_10)
  refine own_go st259 ?_
  show own_G p.tables e below s _ _ _ (T259.setTop (mkF m 13 #[.val (.ref a1), .val (.double x), .second, .val (.int (0 : Int32)), .unset, .unset, .unset] [(.ref xa), (.double x)]))
  refine own_go (fun t k => XS.iconst X259.here hx rfl (hb hby dB1_13) k) ?_
  show own_G p.tables e below s _ _ _ (T259.setTop (mkF m 14 #[.val (.ref a1), .val (.double x), .second, .val (.int (0 : Int32)), .unset, .unset, .unset] [(.int (0 : Int32)), (.ref xa), (.double x)]))
  obtain ⟨cl260, Ar260, q260, S260, NN260, HH260, GG260⟩ := id V1
  have hin260 : ¬ ((0 : Int32) < 0 ∨ cl260.slots.size ≤ ((0 : Int32)).toNatClampNeg) := inb_of S260 ⟨by decide, by decide⟩
  have hat260 : cl260.slots[((0 : Int32)).toNatClampNeg]? = some (.double x0) := Has.at HH260 hin260 rfl
  refine own_go (fun t k => X259.daload hx (j := (0 : Int32)) (v := (.double x0)) (by rw [e259]; exact Ar260.1) (State.isArrayOf_alike hZ.alike Ar260.2.1) Ar260.2.2 hin260 hat260 (g := (mkF m 14 #[.val (.ref a1), .val (.double x), .second, .val (.int (0 : Int32)), .unset, .unset, .unset] [(.int (0 : Int32)), (.ref xa), (.double x)])) rfl rfl (hb hby dB1_14) _ k) ?_
  show own_G p.tables e below s _ _ _ (T259.setTop (mkF m 15 #[.val (.ref a1), .val (.double x), .second, .val (.int (0 : Int32)), .unset, .unset, .unset] [(.double x0), (.double x)]))
  refine own_go (fun t k => XS.dcmpS X259.here hx rfl (hb hby dB1_15) rfl (own_cmpv hxx hx0) k) ?_
  show own_G p.tables e below s _ _ _ (T259.setTop (mkF m 16 #[.val (.ref a1), .val (.double x), .second, .val (.int (0 : Int32)), .unset, .unset, .unset] [(.int (own_c (X) (PX0)))]))
  refine own_go (fun t k => XS.ifYes X259.here hx rfl (pc0 := 16) (pc' := 30) rfl (hb hby dB1_16) rfl (Jvm.Free.XT.i0_gt_t (own_c_gt hB)) (by decide) (by decide) k) ?_
  show own_G p.tables e below s _ _ _ (T259.setTop (mkF m 30 #[.val (.ref a1), .val (.double x), .second, .val (.int (0 : Int32)), .unset, .unset, .unset] []))
  refine own_go (fun t k => XS.dloadN X259.here hx rfl (hb hby dB1_30) rfl k) ?_
  show own_G p.tables e below s _ _ _ (T259.setTop (mkF m 31 #[.val (.ref a1), .val (.double x), .second, .val (.int (0 : Int32)), .unset, .unset, .unset] [(.double x)]))
  refine own_go (fun t k => XS.aloadN X259.here hx rfl (hb hby dB1_31) rfl rfl k) ?_
  show own_G p.tables e below s _ _ _ (T259.setTop (mkF m 32 #[.val (.ref a1), .val (.double x), .second, .val (.int (0 : Int32)), .unset, .unset, .unset] [(.ref a1), (.double x)]))
  obtain ⟨T261, X261, e261, st261⟩ := getF X259 hx hZ hown (host := "") (Or.inl (hw _ (List.mem_of_getElem? (i := 16) rfl))) Via.refl e259 F1 (g := (mkF m 32 #[.val (.ref a1), .val (.double x), .second, .val (.int (0 : Int32)), .unset, .unset, .unset] [(.ref a1), (.double x)])) rfl rfl (hb hby dB1_32)
  refine own_go st261 ?_
  show own_G p.tables e below s _ _ _ (T261.setTop (mkF m 35 #[.val (.ref a1), .val (.double x), .second, .val (.int (0 : Int32)), .unset, .unset, .unset] [(.ref xa), (.double x)]))
  refine own_go (fun t k => XS.iloadN X261.here hx rfl (hb hby dB1_35) rfl k) ?_
  show own_G p.tables e below s _ _ _ (T261.setTop (mkF m 36 #[.val (.ref a1), .val (.double x), .second, .val (.int (0 : Int32)), .unset, .unset, .unset] [(.int (0 : Int32)), (.ref xa), (.double x)]))
  obtain ⟨cl262, Ar262, q262, S262, NN262, HH262, GG262⟩ := id V1
  have hin262 : ¬ ((0 : Int32) < 0 ∨ cl262.slots.size ≤ ((0 : Int32)).toNatClampNeg) := inb_of S262 ⟨by decide, by decide⟩
  have hat262 : cl262.slots[((0 : Int32)).toNatClampNeg]? = some (.double x0) := Has.at HH262 hin262 rfl
  refine own_go (fun t k => X261.daload hx (j := (0 : Int32)) (v := (.double x0)) (by rw [e261]; exact Ar262.1) (State.isArrayOf_alike hZ.alike Ar262.2.1) Ar262.2.2 hin262 hat262 (g := (mkF m 36 #[.val (.ref a1), .val (.double x), .second, .val (.int (0 : Int32)), .unset, .unset, .unset] [(.int (0 : Int32)), (.ref xa), (.double x)])) rfl rfl (hb hby dB1_36) _ k) ?_
  show own_G p.tables e below s _ _ _ (T261.setTop (mkF m 37 #[.val (.ref a1), .val (.double x), .second, .val (.int (0 : Int32)), .unset, .unset, .unset] [(.double x0), (.double x)]))
  refine own_go (fun t k => XS.dcmpS X261.here hx rfl (hb hby dB1_37) rfl (own_cmpv hxx hx0) k) ?_
  show own_G p.tables e below s _ _ _ (T261.setTop (mkF m 38 #[.val (.ref a1), .val (.double x), .second, .val (.int (0 : Int32)), .unset, .unset, .unset] [(.int (own_c (X) (PX0)))]))
  refine own_go (fun t k => XS.ifNo X261.here hx rfl (hb hby dB1_38) rfl (Jvm.Free.XT.i0_lt_f (own_c_ge hB2)) k) ?_
  show own_G p.tables e below s _ _ _ (T261.setTop (mkF m 41 #[.val (.ref a1), .val (.double x), .second, .val (.int (0 : Int32)), .unset, .unset, .unset] []))
  refine own_go (fun t k => XS.aloadN X261.here hx rfl (hb hby dB1_41) rfl rfl k) ?_
  show own_G p.tables e below s _ _ _ (T261.setTop (mkF m 42 #[.val (.ref a1), .val (.double x), .second, .val (.int (0 : Int32)), .unset, .unset, .unset] [(.ref a1)]))
  obtain ⟨T263, X263, e263, st263⟩ := getF X261 hx hZ hown (host := "") (Or.inl (hw _ (List.mem_of_getElem? (i := 18) rfl))) Via.refl e261 F2 (g := (mkF m 42 #[.val (.ref a1), .val (.double x), .second, .val (.int (0 : Int32)), .unset, .unset, .unset] [(.ref a1)])) rfl rfl (hb hby dB1_42)
  refine own_go st263 ?_
  show own_G p.tables e below s _ _ _ (T263.setTop (mkF m 45 #[.val (.ref a1), .val (.double x), .second, .val (.int (0 : Int32)), .unset, .unset, .unset] [(.ref ya)]))
  refine own_go (fun t k => XS.iloadN X263.here hx rfl (hb hby dB1_45) rfl k) ?_
  show own_G p.tables e below s _ _ _ (T263.setTop (mkF m 46 #[.val (.ref a1), .val (.double x), .second, .val (.int (0 : Int32)), .unset, .unset, .unset] [(.int (0 : Int32)), (.ref ya)]))
  obtain ⟨cl264, Ar264, q264, S264, NN264, HH264, GG264⟩ := id V2
  have hin264 : ¬ ((0 : Int32) < 0 ∨ cl264.slots.size ≤ ((0 : Int32)).toNatClampNeg) := inb_of S264 ⟨by decide, by decide⟩
  have hat264 : cl264.slots[((0 : Int32)).toNatClampNeg]? = some (.double y0) := Has.at HH264 hin264 rfl
  refine own_go (fun t k => X263.daload hx (j := (0 : Int32)) (v := (.double y0)) (by rw [e263]; exact Ar264.1) (State.isArrayOf_alike hZ.alike Ar264.2.1) Ar264.2.2 hin264 hat264 (g := (mkF m 46 #[.val (.ref a1), .val (.double x), .second, .val (.int (0 : Int32)), .unset, .unset, .unset] [(.int (0 : Int32)), (.ref ya)])) rfl rfl (hb hby dB1_46) _ k) ?_
  show own_G p.tables e below s _ _ _ (T263.setTop (mkF m 47 #[.val (.ref a1), .val (.double x), .second, .val (.int (0 : Int32)), .unset, .unset, .unset] [(.double y0)]))
  refine own_go (fun t k => XS.dstore X263.here hx rfl (hb hby dB1_47) rfl (l' := #[.val (.ref a1), .val (.double x), .second, .val (.int (0 : Int32)), .val (.double y0), .second, .unset]) rfl k) ?_
  show own_G p.tables e below s _ _ _ (T263.setTop (mkF m 49 #[.val (.ref a1), .val (.double x), .second, .val (.int (0 : Int32)), .val (.double y0), .second, .unset] []))
  refine own_go (fun t k => XS.goto X263.here hx rfl (pc0 := 49) (pc' := 132) rfl (hb hby dB1_49) (by decide) (by decide) k) ?_
  show own_G p.tables e below s _ _ _ (T263.setTop (mkF m 132 #[.val (.ref a1), .val (.double x), .second, .val (.int (0 : Int32)), .val (.double y0), .second, .unset] []))
  refine own_go (fun t k => XS.dload X263.here hx rfl (hb hby dB1_132) rfl k) ?_
  show own_G p.tables e below s _ _ _ (T263.setTop (mkF m 134 #[.val (.ref a1), .val (.double x), .second, .val (.int (0 : Int32)), .val (.double y0), .second, .unset] [(.double y0)]))
  exact own_retD X263 hx hlk Bd.returns (hb hby dB1_134) (by rw [e263]; exact ⟨⟨_, rfl, hy0⟩, N0, rfl⟩) (by decide) (by decide)
theorem dA2_0 : decode prog_17_method_3_code 0 = .ok (.aload_n 0, 1) := by decide +kernel
theorem dA2_1 : decode prog_17_method_3_code 1 = .ok (.getfield 7, 3) := by decide +kernel
theorem dA2_4 : decode prog_17_method_3_code 4 = .ok (.arraylength, 1) := by decide +kernel
theorem dA2_5 : decode prog_17_method_3_code 5 = .ok (.iconst 1, 1) := by decide +kernel
theorem dA2_6 : decode prog_17_method_3_code 6 = .ok (.isub, 1) := by decide +kernel
theorem dA2_7 : decode prog_17_method_3_code 7 = .ok (.istore_n 3, 1) := by decide +kernel
theorem dA2_8 : decode prog_17_method_3_code 8 = .ok (.dload_n 1, 1) := by decide +kernel
theorem dA2_9 : decode prog_17_method_3_code 9 = .ok (.aload_n 0, 1) := by decide +kernel
theorem dA2_10 : decode prog_17_method_3_code 10 = .ok (.getfield 7, 3) := by decide +kernel
theorem dA2_13 : decode prog_17_method_3_code 13 = .ok (.iconst 0, 1) := by decide +kernel
theorem dA2_14 : decode prog_17_method_3_code 14 = .ok (.daload, 1) := by decide +kernel
theorem dA2_15 : decode prog_17_method_3_code 15 = .ok (.dcmp .g, 1) := by decide +kernel
theorem dA2_16 : decode prog_17_method_3_code 16 = .ok (.ifCond .gt 14, 3) := by decide +kernel
theorem dA2_19 : decode prog_17_method_3_code 19 = .ok (.aload_n 0, 1) := by decide +kernel
theorem dA2_20 : decode prog_17_method_3_code 20 = .ok (.getfield 13, 3) := by decide +kernel
theorem dA2_23 : decode prog_17_method_3_code 23 = .ok (.iconst 0, 1) := by decide +kernel
theorem dA2_24 : decode prog_17_method_3_code 24 = .ok (.daload, 1) := by decide +kernel
theorem dA2_25 : decode prog_17_method_3_code 25 = .ok (.dstore 4, 2) := by decide +kernel
theorem dA2_27 : decode prog_17_method_3_code 27 = .ok (.goto 105, 3) := by decide +kernel
theorem dA2_132 : decode prog_17_method_3_code 132 = .ok (.dload 4, 2) := by decide +kernel
theorem dA2_134 : decode prog_17_method_3_code 134 = .ok (.dreturn, 1) := by decide +kernel
theorem ef_A2 (m : MethodId) (x0 : Addr) (x1 : UInt64) : entryFrame m #[(.ref x0), (.double x1)] 7 = mkF m 0 #[.val (.ref x0), .val (.double x1), .second, .unset, .unset, .unset, .unset] [] := by first | (simp [entryFrame, mkF, argsToLocals, Value.category]; done) | rfl
def QA2 (Z : State) (a1 xa ya : Addr) (kx ky : ClassId) (x : UInt64) (X : Int) (x0 y0 x1 y1 : UInt64) (PX0 PY0 PX1 PY1 : Int) (h0 : Heap) (n0 : Nat) (v : Option Value) (h : Heap) (L : List Loc) : Prop := (∃ w : UInt64, v = some (.double w) ∧ own_E (PY0) w) ∧ Fr n0 L ∧ h = h0
set_option maxRecDepth 65536 in
set_option maxHeartbeats 40000000 in
theorem rmA2 (l : Launch) (Z : State) (a0 : Array Value) (hw : ∀ d ∈ tables_1, d.before a0 Z = true) (ws : List Jvm.Cond) (a1 xa ya : Addr) (kx ky : ClassId) (x : UInt64) (X : Int) (x0 y0 x1 y1 : UInt64) (PX0 PY0 PX1 PY1 : Int) (h0 : Heap) (n0 : Nat) (Z0 : n0 ≤ h0.size) (hxx : own_E X x) (hx0 : own_E PX0 x0) (hy0 : own_E PY0 y0) (hx1 : own_E PX1 x1) (hy1 : own_E PY1 y1) (F1 : Fld Z h0 a1 "com/example/options_into_arguments/optionsintoarguments/quality/Curve" "xs" "[D" (.ref xa)) (F2 : Fld Z h0 a1 "com/example/options_into_arguments/optionsintoarguments/quality/Curve" "ys" "[D" (.ref ya)) (V1 : Arv Z h0 xa kx .double (2 : Int32) [(.double x0), (.double x1)] (.double 0)) (V2 : Arv Z h0 ya ky .double (2 : Int32) [(.double y0), (.double y1)] (.double 0)) (hA : X ≤ PX0) :
    MetFree l (⟨"com/example/options_into_arguments/optionsintoarguments/quality/Curve", "at", "(D)D"⟩ : MethodName) (head1 (Jvm.Cond.code (⟨"com/example/options_into_arguments/optionsintoarguments/quality/Curve", "at", "(D)D"⟩ : MethodName) prog_17_method_3_code 7 (some .double) :: ws) ({ frames := 0, cells := 0, slots := 0, locals := 0 } : Room)) (fun a U => a = #[(.ref a1), (.double x)] ∧ Z.Warmed39 U.vm ∧ U.heap = h0) (fun _ _ _ _ _ => True) (fun _ U o U' => ∃ v L, o = .returned v ∧ QA2 Z a1 xa ya kx ky x X x0 y0 x1 y1 PX0 PY0 PX1 PY1 h0 n0 v U'.heap L ∧ FrameEnd U o U' L ({ frames := 0, cells := 0, slots := 0, locals := 0 } : Room).cells ({ frames := 0, cells := 0, slots := 0, locals := 0 } : Room).slots) := by
  refine MetFree.of_bodySF (plainFor_of_name pn_com_example_options_into_arguments_optionsintoarguments_quality_Curve) hisR ?_
  intro p e s m args below meth c s₁ Bd hml0 hP hK
  obtain ⟨rfl, hZ, hh⟩ := hP
  have hx := Bd.exec
  have hby := Bd.bytes
  have hlk : meth.locks = false := BodyLoose.notSynchronized Bd
  have hml : c.maxLocals = 7 := hml0
  have hown : s.vm.findClass "com/example/options_into_arguments/optionsintoarguments/quality/Curve" = some m.cls := findClass_of_methodNamed Bd.named
  have hnm := (name_of_methodNamed Bd.named Bd.method).1
  have X0 : Stand p l e ({ frames := 0, cells := 0, slots := 0, locals := 0 } : Room) s m #[(.ref a1), (.double x)] below meth c s₁ [] 0 0 := Stand.of_body Bd
  have e0 : s₁.heap = h0 := by rw [← hh, Bd.state]; rfl
  have N0 := Fr.nil n0
  show own_G p.tables e below s (QA2 Z a1 xa ya kx ky x X x0 y0 x1 y1 PX0 PY0 PX1 PY1 h0 n0) ({ frames := 0, cells := 0, slots := 0, locals := 0 } : Room).cells ({ frames := 0, cells := 0, slots := 0, locals := 0 } : Room).slots (s₁.setTop (entryFrame m #[(.ref a1), (.double x)] 7))
  refine own_go (fun t k => castTop (ef_A2 m a1 x) k) ?_
  show own_G p.tables e below s _ _ _ (s₁.setTop (mkF m 0 #[.val (.ref a1), .val (.double x), .second, .unset, .unset, .unset, .unset] []))
  refine own_go (fun t k => XS.aloadN X0.here hx rfl (hb hby dA2_0) rfl rfl k) ?_
  show own_G p.tables e below s _ _ _ (s₁.setTop (mkF m 1 #[.val (.ref a1), .val (.double x), .second, .unset, .unset, .unset, .unset] [(.ref a1)]))
  obtain ⟨T265, X265, e265, st265⟩ := getF X0 hx hZ hown (host := "") (Or.inl (hw _ (List.mem_of_getElem? (i := 16) rfl))) Via.refl e0 F1 (g := (mkF m 1 #[.val (.ref a1), .val (.double x), .second, .unset, .unset, .unset, .unset] [(.ref a1)])) rfl rfl (hb hby dA2_1)
  refine own_go st265 ?_
  show own_G p.tables e below s _ _ _ (T265.setTop (mkF m 4 #[.val (.ref a1), .val (.double x), .second, .unset, .unset, .unset, .unset] [(.ref xa)]))
  obtain ⟨cl266, Ar266, q266, S266, NN266, HH266, GG266⟩ := id V1
  have hlen266 := len_of S266 NN266
  refine own_go (A := T265.setTop (mkF m 5 #[.val (.ref a1), .val (.double x), .second, .unset, .unset, .unset, .unset] [(.int (2 : Int32))])) (fun t k => X265.arraylength hx (by rw [e265]; exact Ar266.1) (State.isArrayOf_alike hZ.alike Ar266.2.1) (g := (mkF m 4 #[.val (.ref a1), .val (.double x), .second, .unset, .unset, .unset, .unset] [(.ref xa)])) rfl rfl (hb hby dA2_4) _ (by rw [hlen266]; exact k)) ?_
  show own_G p.tables e below s _ _ _ (T265.setTop (mkF m 5 #[.val (.ref a1), .val (.double x), .second, .unset, .unset, .unset, .unset] [(.int (2 : Int32))]))
  refine own_go (fun t k => XS.iconst X265.here hx rfl (hb hby dA2_5) k) ?_
  show own_G p.tables e below s _ _ _ (T265.setTop (mkF m 6 #[.val (.ref a1), .val (.double x), .second, .unset, .unset, .unset, .unset] [(.int (1 : Int32)), (.int (2 : Int32))]))
  refine own_go (fun t k => XS.isub X265.here hx rfl (hb hby dA2_6) rfl k) ?_
  show own_G p.tables e below s _ _ _ (T265.setTop (mkF m 7 #[.val (.ref a1), .val (.double x), .second, .unset, .unset, .unset, .unset] [(.int (1 : Int32))]))
  refine own_go (fun t k => XS.istoreN X265.here hx rfl (hb hby dA2_7) rfl (l' := #[.val (.ref a1), .val (.double x), .second, .val (.int (1 : Int32)), .unset, .unset, .unset]) rfl k) ?_
  show own_G p.tables e below s _ _ _ (T265.setTop (mkF m 8 #[.val (.ref a1), .val (.double x), .second, .val (.int (1 : Int32)), .unset, .unset, .unset] []))
  refine own_go (fun t k => XS.dloadN X265.here hx rfl (hb hby dA2_8) rfl k) ?_
  show own_G p.tables e below s _ _ _ (T265.setTop (mkF m 9 #[.val (.ref a1), .val (.double x), .second, .val (.int (1 : Int32)), .unset, .unset, .unset] [(.double x)]))
  refine own_go (fun t k => XS.aloadN X265.here hx rfl (hb hby dA2_9) rfl rfl k) ?_
  show own_G p.tables e below s _ _ _ (T265.setTop (mkF m 10 #[.val (.ref a1), .val (.double x), .second, .val (.int (1 : Int32)), .unset, .unset, .unset] [(.ref a1), (.double x)]))
  obtain ⟨T267, X267, e267, st267⟩ := getF X265 hx hZ hown (host := "") (Or.inl (hw _ (List.mem_of_getElem? (i := 16) rfl))) Via.refl e265 F1 (g := (mkF m 10 #[.val (.ref a1), .val (.double x), .second, .val (.int (1 : Int32)), .unset, .unset, .unset] [(.ref a1), (.double x)])) rfl rfl (hb hby dA2_10)
  refine own_go st267 ?_
  show own_G p.tables e below s _ _ _ (T267.setTop (mkF m 13 #[.val (.ref a1), .val (.double x), .second, .val (.int (1 : Int32)), .unset, .unset, .unset] [(.ref xa), (.double x)]))
  refine own_go (fun t k => XS.iconst X267.here hx rfl (hb hby dA2_13) k) ?_
  show own_G p.tables e below s _ _ _ (T267.setTop (mkF m 14 #[.val (.ref a1), .val (.double x), .second, .val (.int (1 : Int32)), .unset, .unset, .unset] [(.int (0 : Int32)), (.ref xa), (.double x)]))
  obtain ⟨cl268, Ar268, q268, S268, NN268, HH268, GG268⟩ := id V1
  have hin268 : ¬ ((0 : Int32) < 0 ∨ cl268.slots.size ≤ ((0 : Int32)).toNatClampNeg) := inb_of S268 ⟨by decide, by decide⟩
  have hat268 : cl268.slots[((0 : Int32)).toNatClampNeg]? = some (.double x0) := Has.at HH268 hin268 rfl
  refine own_go (fun t k => X267.daload hx (j := (0 : Int32)) (v := (.double x0)) (by rw [e267]; exact Ar268.1) (State.isArrayOf_alike hZ.alike Ar268.2.1) Ar268.2.2 hin268 hat268 (g := (mkF m 14 #[.val (.ref a1), .val (.double x), .second, .val (.int (1 : Int32)), .unset, .unset, .unset] [(.int (0 : Int32)), (.ref xa), (.double x)])) rfl rfl (hb hby dA2_14) _ k) ?_
  show own_G p.tables e below s _ _ _ (T267.setTop (mkF m 15 #[.val (.ref a1), .val (.double x), .second, .val (.int (1 : Int32)), .unset, .unset, .unset] [(.double x0), (.double x)]))
  refine own_go (fun t k => XS.dcmpS X267.here hx rfl (hb hby dA2_15) rfl (own_cmpv hxx hx0) k) ?_
  show own_G p.tables e below s _ _ _ (T267.setTop (mkF m 16 #[.val (.ref a1), .val (.double x), .second, .val (.int (1 : Int32)), .unset, .unset, .unset] [(.int (own_c (X) (PX0)))]))
  refine own_go (fun t k => XS.ifNo X267.here hx rfl (hb hby dA2_16) rfl (Jvm.Free.XT.i0_gt_f (own_c_le hA)) k) ?_
  show own_G p.tables e below s _ _ _ (T267.setTop (mkF m 19 #[.val (.ref a1), .val (.double x), .second, .val (.int (1 : Int32)), .unset, .unset, .unset] []))
  refine own_go (fun t k => XS.aloadN X267.here hx rfl (hb hby dA2_19) rfl rfl k) ?_
  show own_G p.tables e below s _ _ _ (T267.setTop (mkF m 20 #[.val (.ref a1), .val (.double x), .second, .val (.int (1 : Int32)), .unset, .unset, .unset] [(.ref a1)]))
  obtain ⟨T269, X269, e269, st269⟩ := getF X267 hx hZ hown (host := "") (Or.inl (hw _ (List.mem_of_getElem? (i := 18) rfl))) Via.refl e267 F2 (g := (mkF m 20 #[.val (.ref a1), .val (.double x), .second, .val (.int (1 : Int32)), .unset, .unset, .unset] [(.ref a1)])) rfl rfl (hb hby dA2_20)
  refine own_go st269 ?_
  show own_G p.tables e below s _ _ _ (T269.setTop (mkF m 23 #[.val (.ref a1), .val (.double x), .second, .val (.int (1 : Int32)), .unset, .unset, .unset] [(.ref ya)]))
  refine own_go (fun t k => XS.iconst X269.here hx rfl (hb hby dA2_23) k) ?_
  show own_G p.tables e below s _ _ _ (T269.setTop (mkF m 24 #[.val (.ref a1), .val (.double x), .second, .val (.int (1 : Int32)), .unset, .unset, .unset] [(.int (0 : Int32)), (.ref ya)]))
  obtain ⟨cl270, Ar270, q270, S270, NN270, HH270, GG270⟩ := id V2
  have hin270 : ¬ ((0 : Int32) < 0 ∨ cl270.slots.size ≤ ((0 : Int32)).toNatClampNeg) := inb_of S270 ⟨by decide, by decide⟩
  have hat270 : cl270.slots[((0 : Int32)).toNatClampNeg]? = some (.double y0) := Has.at HH270 hin270 rfl
  refine own_go (fun t k => X269.daload hx (j := (0 : Int32)) (v := (.double y0)) (by rw [e269]; exact Ar270.1) (State.isArrayOf_alike hZ.alike Ar270.2.1) Ar270.2.2 hin270 hat270 (g := (mkF m 24 #[.val (.ref a1), .val (.double x), .second, .val (.int (1 : Int32)), .unset, .unset, .unset] [(.int (0 : Int32)), (.ref ya)])) rfl rfl (hb hby dA2_24) _ k) ?_
  show own_G p.tables e below s _ _ _ (T269.setTop (mkF m 25 #[.val (.ref a1), .val (.double x), .second, .val (.int (1 : Int32)), .unset, .unset, .unset] [(.double y0)]))
  refine own_go (fun t k => XS.dstore X269.here hx rfl (hb hby dA2_25) rfl (l' := #[.val (.ref a1), .val (.double x), .second, .val (.int (1 : Int32)), .val (.double y0), .second, .unset]) rfl k) ?_
  show own_G p.tables e below s _ _ _ (T269.setTop (mkF m 27 #[.val (.ref a1), .val (.double x), .second, .val (.int (1 : Int32)), .val (.double y0), .second, .unset] []))
  refine own_go (fun t k => XS.goto X269.here hx rfl (pc0 := 27) (pc' := 132) rfl (hb hby dA2_27) (by decide) (by decide) k) ?_
  show own_G p.tables e below s _ _ _ (T269.setTop (mkF m 132 #[.val (.ref a1), .val (.double x), .second, .val (.int (1 : Int32)), .val (.double y0), .second, .unset] []))
  refine own_go (fun t k => XS.dload X269.here hx rfl (hb hby dA2_132) rfl k) ?_
  show own_G p.tables e below s _ _ _ (T269.setTop (mkF m 134 #[.val (.ref a1), .val (.double x), .second, .val (.int (1 : Int32)), .val (.double y0), .second, .unset] [(.double y0)]))
  exact own_retD X269 hx hlk Bd.returns (hb hby dA2_134) (by rw [e269]; exact ⟨⟨_, rfl, hy0⟩, N0, rfl⟩) (by decide) (by decide)
theorem dB2_0 : decode prog_17_method_3_code 0 = .ok (.aload_n 0, 1) := by decide +kernel
theorem dB2_1 : decode prog_17_method_3_code 1 = .ok (.getfield 7, 3) := by decide +kernel
theorem dB2_4 : decode prog_17_method_3_code 4 = .ok (.arraylength, 1) := by decide +kernel
theorem dB2_5 : decode prog_17_method_3_code 5 = .ok (.iconst 1, 1) := by decide +kernel
theorem dB2_6 : decode prog_17_method_3_code 6 = .ok (.isub, 1) := by decide +kernel
theorem dB2_7 : decode prog_17_method_3_code 7 = .ok (.istore_n 3, 1) := by decide +kernel
theorem dB2_8 : decode prog_17_method_3_code 8 = .ok (.dload_n 1, 1) := by decide +kernel
theorem dB2_9 : decode prog_17_method_3_code 9 = .ok (.aload_n 0, 1) := by decide +kernel
theorem dB2_10 : decode prog_17_method_3_code 10 = .ok (.getfield 7, 3) := by decide +kernel
theorem dB2_13 : decode prog_17_method_3_code 13 = .ok (.iconst 0, 1) := by decide +kernel
theorem dB2_14 : decode prog_17_method_3_code 14 = .ok (.daload, 1) := by decide +kernel
theorem dB2_15 : decode prog_17_method_3_code 15 = .ok (.dcmp .g, 1) := by decide +kernel
theorem dB2_16 : decode prog_17_method_3_code 16 = .ok (.ifCond .gt 14, 3) := by decide +kernel
theorem dB2_30 : decode prog_17_method_3_code 30 = .ok (.dload_n 1, 1) := by decide +kernel
theorem dB2_31 : decode prog_17_method_3_code 31 = .ok (.aload_n 0, 1) := by decide +kernel
theorem dB2_32 : decode prog_17_method_3_code 32 = .ok (.getfield 7, 3) := by decide +kernel
theorem dB2_35 : decode prog_17_method_3_code 35 = .ok (.iload_n 3, 1) := by decide +kernel
theorem dB2_36 : decode prog_17_method_3_code 36 = .ok (.daload, 1) := by decide +kernel
theorem dB2_37 : decode prog_17_method_3_code 37 = .ok (.dcmp .l, 1) := by decide +kernel
theorem dB2_38 : decode prog_17_method_3_code 38 = .ok (.ifCond .lt 14, 3) := by decide +kernel
theorem dB2_41 : decode prog_17_method_3_code 41 = .ok (.aload_n 0, 1) := by decide +kernel
theorem dB2_42 : decode prog_17_method_3_code 42 = .ok (.getfield 13, 3) := by decide +kernel
theorem dB2_45 : decode prog_17_method_3_code 45 = .ok (.iload_n 3, 1) := by decide +kernel
theorem dB2_46 : decode prog_17_method_3_code 46 = .ok (.daload, 1) := by decide +kernel
theorem dB2_47 : decode prog_17_method_3_code 47 = .ok (.dstore 4, 2) := by decide +kernel
theorem dB2_49 : decode prog_17_method_3_code 49 = .ok (.goto 83, 3) := by decide +kernel
theorem dB2_132 : decode prog_17_method_3_code 132 = .ok (.dload 4, 2) := by decide +kernel
theorem dB2_134 : decode prog_17_method_3_code 134 = .ok (.dreturn, 1) := by decide +kernel
theorem ef_B2 (m : MethodId) (x0 : Addr) (x1 : UInt64) : entryFrame m #[(.ref x0), (.double x1)] 7 = mkF m 0 #[.val (.ref x0), .val (.double x1), .second, .unset, .unset, .unset, .unset] [] := by first | (simp [entryFrame, mkF, argsToLocals, Value.category]; done) | rfl
def QB2 (Z : State) (a1 xa ya : Addr) (kx ky : ClassId) (x : UInt64) (X : Int) (x0 y0 x1 y1 : UInt64) (PX0 PY0 PX1 PY1 : Int) (h0 : Heap) (n0 : Nat) (v : Option Value) (h : Heap) (L : List Loc) : Prop := (∃ w : UInt64, v = some (.double w) ∧ own_E (PY1) w) ∧ Fr n0 L ∧ h = h0
set_option maxRecDepth 65536 in
set_option maxHeartbeats 40000000 in
theorem rmB2 (l : Launch) (Z : State) (a0 : Array Value) (hw : ∀ d ∈ tables_1, d.before a0 Z = true) (ws : List Jvm.Cond) (a1 xa ya : Addr) (kx ky : ClassId) (x : UInt64) (X : Int) (x0 y0 x1 y1 : UInt64) (PX0 PY0 PX1 PY1 : Int) (h0 : Heap) (n0 : Nat) (Z0 : n0 ≤ h0.size) (hxx : own_E X x) (hx0 : own_E PX0 x0) (hy0 : own_E PY0 y0) (hx1 : own_E PX1 x1) (hy1 : own_E PY1 y1) (F1 : Fld Z h0 a1 "com/example/options_into_arguments/optionsintoarguments/quality/Curve" "xs" "[D" (.ref xa)) (F2 : Fld Z h0 a1 "com/example/options_into_arguments/optionsintoarguments/quality/Curve" "ys" "[D" (.ref ya)) (V1 : Arv Z h0 xa kx .double (2 : Int32) [(.double x0), (.double x1)] (.double 0)) (V2 : Arv Z h0 ya ky .double (2 : Int32) [(.double y0), (.double y1)] (.double 0)) (hB : PX0 < X) (hB2 : PX1 ≤ X) :
    MetFree l (⟨"com/example/options_into_arguments/optionsintoarguments/quality/Curve", "at", "(D)D"⟩ : MethodName) (head1 (Jvm.Cond.code (⟨"com/example/options_into_arguments/optionsintoarguments/quality/Curve", "at", "(D)D"⟩ : MethodName) prog_17_method_3_code 7 (some .double) :: ws) ({ frames := 0, cells := 0, slots := 0, locals := 0 } : Room)) (fun a U => a = #[(.ref a1), (.double x)] ∧ Z.Warmed39 U.vm ∧ U.heap = h0) (fun _ _ _ _ _ => True) (fun _ U o U' => ∃ v L, o = .returned v ∧ QB2 Z a1 xa ya kx ky x X x0 y0 x1 y1 PX0 PY0 PX1 PY1 h0 n0 v U'.heap L ∧ FrameEnd U o U' L ({ frames := 0, cells := 0, slots := 0, locals := 0 } : Room).cells ({ frames := 0, cells := 0, slots := 0, locals := 0 } : Room).slots) := by
  refine MetFree.of_bodySF (plainFor_of_name pn_com_example_options_into_arguments_optionsintoarguments_quality_Curve) hisR ?_
  intro p e s m args below meth c s₁ Bd hml0 hP hK
  obtain ⟨rfl, hZ, hh⟩ := hP
  have hx := Bd.exec
  have hby := Bd.bytes
  have hlk : meth.locks = false := BodyLoose.notSynchronized Bd
  have hml : c.maxLocals = 7 := hml0
  have hown : s.vm.findClass "com/example/options_into_arguments/optionsintoarguments/quality/Curve" = some m.cls := findClass_of_methodNamed Bd.named
  have hnm := (name_of_methodNamed Bd.named Bd.method).1
  have X0 : Stand p l e ({ frames := 0, cells := 0, slots := 0, locals := 0 } : Room) s m #[(.ref a1), (.double x)] below meth c s₁ [] 0 0 := Stand.of_body Bd
  have e0 : s₁.heap = h0 := by rw [← hh, Bd.state]; rfl
  have N0 := Fr.nil n0
  show own_G p.tables e below s (QB2 Z a1 xa ya kx ky x X x0 y0 x1 y1 PX0 PY0 PX1 PY1 h0 n0) ({ frames := 0, cells := 0, slots := 0, locals := 0 } : Room).cells ({ frames := 0, cells := 0, slots := 0, locals := 0 } : Room).slots (s₁.setTop (entryFrame m #[(.ref a1), (.double x)] 7))
  refine own_go (fun t k => castTop (ef_B2 m a1 x) k) ?_
  show own_G p.tables e below s _ _ _ (s₁.setTop (mkF m 0 #[.val (.ref a1), .val (.double x), .second, .unset, .unset, .unset, .unset] []))
  refine own_go (fun t k => XS.aloadN X0.here hx rfl (hb hby dB2_0) rfl rfl k) ?_
  show own_G p.tables e below s _ _ _ (s₁.setTop (mkF m 1 #[.val (.ref a1), .val (.double x), .second, .unset, .unset, .unset, .unset] [(.ref a1)]))
  obtain ⟨T271, X271, e271, st271⟩ := getF X0 hx hZ hown (host := "") (Or.inl (hw _ (List.mem_of_getElem? (i := 16) rfl))) Via.refl e0 F1 (g := (mkF m 1 #[.val (.ref a1), .val (.double x), .second, .unset, .unset, .unset, .unset] [(.ref a1)])) rfl rfl (hb hby dB2_1)
  refine own_go st271 ?_
  show own_G p.tables e below s _ _ _ (T271.setTop (mkF m 4 #[.val (.ref a1), .val (.double x), .second, .unset, .unset, .unset, .unset] [(.ref xa)]))
  obtain ⟨cl272, Ar272, q272, S272, NN272, HH272, GG272⟩ := id V1
  have hlen272 := len_of S272 NN272
  refine own_go (A := T271.setTop (mkF m 5 #[.val (.ref a1), .val (.double x), .second, .unset, .unset, .unset, .unset] [(.int (2 : Int32))])) (fun t k => X271.arraylength hx (by rw [e271]; exact Ar272.1) (State.isArrayOf_alike hZ.alike Ar272.2.1) (g := (mkF m 4 #[.val (.ref a1), .val (.double x), .second, .unset, .unset, .unset, .unset] [(.ref xa)])) rfl rfl (hb hby dB2_4) _ (by rw [hlen272]; exact k)) ?_
  show own_G p.tables e below s _ _ _ (T271.setTop (mkF m 5 #[.val (.ref a1), .val (.double x), .second, .unset, .unset, .unset, .unset] [(.int (2 : Int32))]))
  refine own_go (fun t k => XS.iconst X271.here hx rfl (hb hby dB2_5) k) ?_
  show own_G p.tables e below s _ _ _ (T271.setTop (mkF m 6 #[.val (.ref a1), .val (.double x), .second, .unset, .unset, .unset, .unset] [(.int (1 : Int32)), (.int (2 : Int32))]))
  refine own_go (fun t k => XS.isub X271.here hx rfl (hb hby dB2_6) rfl k) ?_
  show own_G p.tables e below s _ _ _ (T271.setTop (mkF m 7 #[.val (.ref a1), .val (.double x), .second, .unset, .unset, .unset, .unset] [(.int (1 : Int32))]))
  refine own_go (fun t k => XS.istoreN X271.here hx rfl (hb hby dB2_7) rfl (l' := #[.val (.ref a1), .val (.double x), .second, .val (.int (1 : Int32)), .unset, .unset, .unset]) rfl k) ?_
  show own_G p.tables e below s _ _ _ (T271.setTop (mkF m 8 #[.val (.ref a1), .val (.double x), .second, .val (.int (1 : Int32)), .unset, .unset, .unset] []))
  refine own_go (fun t k => XS.dloadN X271.here hx rfl (hb hby dB2_8) rfl k) ?_
  show own_G p.tables e below s _ _ _ (T271.setTop (mkF m 9 #[.val (.ref a1), .val (.double x), .second, .val (.int (1 : Int32)), .unset, .unset, .unset] [(.double x)]))
  refine own_go (fun t k => XS.aloadN X271.here hx rfl (hb hby dB2_9) rfl rfl k) ?_
  show own_G p.tables e below s _ _ _ (T271.setTop (mkF m 10 #[.val (.ref a1), .val (.double x), .second, .val (.int (1 : Int32)), .unset, .unset, .unset] [(.ref a1), (.double x)]))
  obtain ⟨T273, X273, e273, st273⟩ := getF X271 hx hZ hown (host := "") (Or.inl (hw _ (List.mem_of_getElem? (i := 16) rfl))) Via.refl e271 F1 (g := (mkF m 10 #[.val (.ref a1), .val (.double x), .second, .val (.int (1 : Int32)), .unset, .unset, .unset] [(.ref a1), (.double x)])) rfl rfl (hb hby dB2_10)
  refine own_go st273 ?_
  show own_G p.tables e below s _ _ _ (T273.setTop (mkF m 13 #[.val (.ref a1), .val (.double x), .second, .val (.int (1 : Int32)), .unset, .unset, .unset] [(.ref xa), (.double x)]))
  refine own_go (fun t k => XS.iconst X273.here hx rfl (hb hby dB2_13) k) ?_
  show own_G p.tables e below s _ _ _ (T273.setTop (mkF m 14 #[.val (.ref a1), .val (.double x), .second, .val (.int (1 : Int32)), .unset, .unset, .unset] [(.int (0 : Int32)), (.ref xa), (.double x)]))
  obtain ⟨cl274, Ar274, q274, S274, NN274, HH274, GG274⟩ := id V1
  have hin274 : ¬ ((0 : Int32) < 0 ∨ cl274.slots.size ≤ ((0 : Int32)).toNatClampNeg) := inb_of S274 ⟨by decide, by decide⟩
  have hat274 : cl274.slots[((0 : Int32)).toNatClampNeg]? = some (.double x0) := Has.at HH274 hin274 rfl
  refine own_go (fun t k => X273.daload hx (j := (0 : Int32)) (v := (.double x0)) (by rw [e273]; exact Ar274.1) (State.isArrayOf_alike hZ.alike Ar274.2.1) Ar274.2.2 hin274 hat274 (g := (mkF m 14 #[.val (.ref a1), .val (.double x), .second, .val (.int (1 : Int32)), .unset, .unset, .unset] [(.int (0 : Int32)), (.ref xa), (.double x)])) rfl rfl (hb hby dB2_14) _ k) ?_
  show own_G p.tables e below s _ _ _ (T273.setTop (mkF m 15 #[.val (.ref a1), .val (.double x), .second, .val (.int (1 : Int32)), .unset, .unset, .unset] [(.double x0), (.double x)]))
  refine own_go (fun t k => XS.dcmpS X273.here hx rfl (hb hby dB2_15) rfl (own_cmpv hxx hx0) k) ?_
  show own_G p.tables e below s _ _ _ (T273.setTop (mkF m 16 #[.val (.ref a1), .val (.double x), .second, .val (.int (1 : Int32)), .unset, .unset, .unset] [(.int (own_c (X) (PX0)))]))
  refine own_go (fun t k => XS.ifYes X273.here hx rfl (pc0 := 16) (pc' := 30) rfl (hb hby dB2_16) rfl (Jvm.Free.XT.i0_gt_t (own_c_gt hB)) (by decide) (by decide) k) ?_
  show own_G p.tables e below s _ _ _ (T273.setTop (mkF m 30 #[.val (.ref a1), .val (.double x), .second, .val (.int (1 : Int32)), .unset, .unset, .unset] []))
  refine own_go (fun t k => XS.dloadN X273.here hx rfl (hb hby dB2_30) rfl k) ?_
  show own_G p.tables e below s _ _ _ (T273.setTop (mkF m 31 #[.val (.ref a1), .val (.double x), .second, .val (.int (1 : Int32)), .unset, .unset, .unset] [(.double x)]))
  refine own_go (fun t k => XS.aloadN X273.here hx rfl (hb hby dB2_31) rfl rfl k) ?_
  show own_G p.tables e below s _ _ _ (T273.setTop (mkF m 32 #[.val (.ref a1), .val (.double x), .second, .val (.int (1 : Int32)), .unset, .unset, .unset] [(.ref a1), (.double x)]))
  obtain ⟨T275, X275, e275, st275⟩ := getF X273 hx hZ hown (host := "") (Or.inl (hw _ (List.mem_of_getElem? (i := 16) rfl))) Via.refl e273 F1 (g := (mkF m 32 #[.val (.ref a1), .val (.double x), .second, .val (.int (1 : Int32)), .unset, .unset, .unset] [(.ref a1), (.double x)])) rfl rfl (hb hby dB2_32)
  refine own_go st275 ?_
  show own_G p.tables e below s _ _ _ (T275.setTop (mkF m 35 #[.val (.ref a1), .val (.double x), .second, .val (.int (1 : Int32)), .unset, .unset, .unset] [(.ref xa), (.double x)]))
  refine own_go (fun t k => XS.iloadN X275.here hx rfl (hb hby dB2_35) rfl k) ?_
  show own_G p.tables e below s _ _ _ (T275.setTop (mkF m 36 #[.val (.ref a1), .val (.double x), .second, .val (.int (1 : Int32)), .unset, .unset, .unset] [(.int (1 : Int32)), (.ref xa), (.double x)]))
  obtain ⟨cl276, Ar276, q276, S276, NN276, HH276, GG276⟩ := id V1
  have hin276 : ¬ ((1 : Int32) < 0 ∨ cl276.slots.size ≤ ((1 : Int32)).toNatClampNeg) := inb_of S276 ⟨by decide, by decide⟩
  have hat276 : cl276.slots[((1 : Int32)).toNatClampNeg]? = some (.double x1) := Has.at HH276 hin276 rfl
  refine own_go (fun t k => X275.daload hx (j := (1 : Int32)) (v := (.double x1)) (by rw [e275]; exact Ar276.1) (State.isArrayOf_alike hZ.alike Ar276.2.1) Ar276.2.2 hin276 hat276 (g := (mkF m 36 #[.val (.ref a1), .val (.double x), .second, .val (.int (1 : Int32)), .unset, .unset, .unset] [(.int (1 : Int32)), (.ref xa), (.double x)])) rfl rfl (hb hby dB2_36) _ k) ?_
  show own_G p.tables e below s _ _ _ (T275.setTop (mkF m 37 #[.val (.ref a1), .val (.double x), .second, .val (.int (1 : Int32)), .unset, .unset, .unset] [(.double x1), (.double x)]))
  refine own_go (fun t k => XS.dcmpS X275.here hx rfl (hb hby dB2_37) rfl (own_cmpv hxx hx1) k) ?_
  show own_G p.tables e below s _ _ _ (T275.setTop (mkF m 38 #[.val (.ref a1), .val (.double x), .second, .val (.int (1 : Int32)), .unset, .unset, .unset] [(.int (own_c (X) (PX1)))]))
  refine own_go (fun t k => XS.ifNo X275.here hx rfl (hb hby dB2_38) rfl (Jvm.Free.XT.i0_lt_f (own_c_ge hB2)) k) ?_
  show own_G p.tables e below s _ _ _ (T275.setTop (mkF m 41 #[.val (.ref a1), .val (.double x), .second, .val (.int (1 : Int32)), .unset, .unset, .unset] []))
  refine own_go (fun t k => XS.aloadN X275.here hx rfl (hb hby dB2_41) rfl rfl k) ?_
  show own_G p.tables e below s _ _ _ (T275.setTop (mkF m 42 #[.val (.ref a1), .val (.double x), .second, .val (.int (1 : Int32)), .unset, .unset, .unset] [(.ref a1)]))
  obtain ⟨T277, X277, e277, st277⟩ := getF X275 hx hZ hown (host := "") (Or.inl (hw _ (List.mem_of_getElem? (i := 18) rfl))) Via.refl e275 F2 (g := (mkF m 42 #[.val (.ref a1), .val (.double x), .second, .val (.int (1 : Int32)), .unset, .unset, .unset] [(.ref a1)])) rfl rfl (hb hby dB2_42)
  refine own_go st277 ?_
  show own_G p.tables e below s _ _ _ (T277.setTop (mkF m 45 #[.val (.ref a1), .val (.double x), .second, .val (.int (1 : Int32)), .unset, .unset, .unset] [(.ref ya)]))
  refine own_go (fun t k => XS.iloadN X277.here hx rfl (hb hby dB2_45) rfl k) ?_
  show own_G p.tables e below s _ _ _ (T277.setTop (mkF m 46 #[.val (.ref a1), .val (.double x), .second, .val (.int (1 : Int32)), .unset, .unset, .unset] [(.int (1 : Int32)), (.ref ya)]))
  obtain ⟨cl278, Ar278, q278, S278, NN278, HH278, GG278⟩ := id V2
  have hin278 : ¬ ((1 : Int32) < 0 ∨ cl278.slots.size ≤ ((1 : Int32)).toNatClampNeg) := inb_of S278 ⟨by decide, by decide⟩
  have hat278 : cl278.slots[((1 : Int32)).toNatClampNeg]? = some (.double y1) := Has.at HH278 hin278 rfl
  refine own_go (fun t k => X277.daload hx (j := (1 : Int32)) (v := (.double y1)) (by rw [e277]; exact Ar278.1) (State.isArrayOf_alike hZ.alike Ar278.2.1) Ar278.2.2 hin278 hat278 (g := (mkF m 46 #[.val (.ref a1), .val (.double x), .second, .val (.int (1 : Int32)), .unset, .unset, .unset] [(.int (1 : Int32)), (.ref ya)])) rfl rfl (hb hby dB2_46) _ k) ?_
  show own_G p.tables e below s _ _ _ (T277.setTop (mkF m 47 #[.val (.ref a1), .val (.double x), .second, .val (.int (1 : Int32)), .unset, .unset, .unset] [(.double y1)]))
  refine own_go (fun t k => XS.dstore X277.here hx rfl (hb hby dB2_47) rfl (l' := #[.val (.ref a1), .val (.double x), .second, .val (.int (1 : Int32)), .val (.double y1), .second, .unset]) rfl k) ?_
  show own_G p.tables e below s _ _ _ (T277.setTop (mkF m 49 #[.val (.ref a1), .val (.double x), .second, .val (.int (1 : Int32)), .val (.double y1), .second, .unset] []))
  refine own_go (fun t k => XS.goto X277.here hx rfl (pc0 := 49) (pc' := 132) rfl (hb hby dB2_49) (by decide) (by decide) k) ?_
  show own_G p.tables e below s _ _ _ (T277.setTop (mkF m 132 #[.val (.ref a1), .val (.double x), .second, .val (.int (1 : Int32)), .val (.double y1), .second, .unset] []))
  refine own_go (fun t k => XS.dload X277.here hx rfl (hb hby dB2_132) rfl k) ?_
  show own_G p.tables e below s _ _ _ (T277.setTop (mkF m 134 #[.val (.ref a1), .val (.double x), .second, .val (.int (1 : Int32)), .val (.double y1), .second, .unset] [(.double y1)]))
  exact own_retD X277 hx hlk Bd.returns (hb hby dB2_134) (by rw [e277]; exact ⟨⟨_, rfl, hy1⟩, N0, rfl⟩) (by decide) (by decide)
theorem dA3_0 : decode prog_17_method_3_code 0 = .ok (.aload_n 0, 1) := by decide +kernel
theorem dA3_1 : decode prog_17_method_3_code 1 = .ok (.getfield 7, 3) := by decide +kernel
theorem dA3_4 : decode prog_17_method_3_code 4 = .ok (.arraylength, 1) := by decide +kernel
theorem dA3_5 : decode prog_17_method_3_code 5 = .ok (.iconst 1, 1) := by decide +kernel
theorem dA3_6 : decode prog_17_method_3_code 6 = .ok (.isub, 1) := by decide +kernel
theorem dA3_7 : decode prog_17_method_3_code 7 = .ok (.istore_n 3, 1) := by decide +kernel
theorem dA3_8 : decode prog_17_method_3_code 8 = .ok (.dload_n 1, 1) := by decide +kernel
theorem dA3_9 : decode prog_17_method_3_code 9 = .ok (.aload_n 0, 1) := by decide +kernel
theorem dA3_10 : decode prog_17_method_3_code 10 = .ok (.getfield 7, 3) := by decide +kernel
theorem dA3_13 : decode prog_17_method_3_code 13 = .ok (.iconst 0, 1) := by decide +kernel
theorem dA3_14 : decode prog_17_method_3_code 14 = .ok (.daload, 1) := by decide +kernel
theorem dA3_15 : decode prog_17_method_3_code 15 = .ok (.dcmp .g, 1) := by decide +kernel
theorem dA3_16 : decode prog_17_method_3_code 16 = .ok (.ifCond .gt 14, 3) := by decide +kernel
theorem dA3_19 : decode prog_17_method_3_code 19 = .ok (.aload_n 0, 1) := by decide +kernel
theorem dA3_20 : decode prog_17_method_3_code 20 = .ok (.getfield 13, 3) := by decide +kernel
theorem dA3_23 : decode prog_17_method_3_code 23 = .ok (.iconst 0, 1) := by decide +kernel
theorem dA3_24 : decode prog_17_method_3_code 24 = .ok (.daload, 1) := by decide +kernel
theorem dA3_25 : decode prog_17_method_3_code 25 = .ok (.dstore 4, 2) := by decide +kernel
theorem dA3_27 : decode prog_17_method_3_code 27 = .ok (.goto 105, 3) := by decide +kernel
theorem dA3_132 : decode prog_17_method_3_code 132 = .ok (.dload 4, 2) := by decide +kernel
theorem dA3_134 : decode prog_17_method_3_code 134 = .ok (.dreturn, 1) := by decide +kernel
theorem ef_A3 (m : MethodId) (x0 : Addr) (x1 : UInt64) : entryFrame m #[(.ref x0), (.double x1)] 7 = mkF m 0 #[.val (.ref x0), .val (.double x1), .second, .unset, .unset, .unset, .unset] [] := by first | (simp [entryFrame, mkF, argsToLocals, Value.category]; done) | rfl
def QA3 (Z : State) (a1 xa ya : Addr) (kx ky : ClassId) (x : UInt64) (X : Int) (x0 y0 x1 y1 x2 y2 : UInt64) (PX0 PY0 PX1 PY1 PX2 PY2 : Int) (h0 : Heap) (n0 : Nat) (v : Option Value) (h : Heap) (L : List Loc) : Prop := (∃ w : UInt64, v = some (.double w) ∧ own_E (PY0) w) ∧ Fr n0 L ∧ h = h0
set_option maxRecDepth 65536 in
set_option maxHeartbeats 40000000 in
theorem rmA3 (l : Launch) (Z : State) (a0 : Array Value) (hw : ∀ d ∈ tables_1, d.before a0 Z = true) (ws : List Jvm.Cond) (a1 xa ya : Addr) (kx ky : ClassId) (x : UInt64) (X : Int) (x0 y0 x1 y1 x2 y2 : UInt64) (PX0 PY0 PX1 PY1 PX2 PY2 : Int) (h0 : Heap) (n0 : Nat) (Z0 : n0 ≤ h0.size) (hxx : own_E X x) (hx0 : own_E PX0 x0) (hy0 : own_E PY0 y0) (hx1 : own_E PX1 x1) (hy1 : own_E PY1 y1) (hx2 : own_E PX2 x2) (hy2 : own_E PY2 y2) (F1 : Fld Z h0 a1 "com/example/options_into_arguments/optionsintoarguments/quality/Curve" "xs" "[D" (.ref xa)) (F2 : Fld Z h0 a1 "com/example/options_into_arguments/optionsintoarguments/quality/Curve" "ys" "[D" (.ref ya)) (V1 : Arv Z h0 xa kx .double (3 : Int32) [(.double x0), (.double x1), (.double x2)] (.double 0)) (V2 : Arv Z h0 ya ky .double (3 : Int32) [(.double y0), (.double y1), (.double y2)] (.double 0)) (hA : X ≤ PX0) :
    MetFree l (⟨"com/example/options_into_arguments/optionsintoarguments/quality/Curve", "at", "(D)D"⟩ : MethodName) (head1 (Jvm.Cond.code (⟨"com/example/options_into_arguments/optionsintoarguments/quality/Curve", "at", "(D)D"⟩ : MethodName) prog_17_method_3_code 7 (some .double) :: ws) ({ frames := 0, cells := 0, slots := 0, locals := 0 } : Room)) (fun a U => a = #[(.ref a1), (.double x)] ∧ Z.Warmed39 U.vm ∧ U.heap = h0) (fun _ _ _ _ _ => True) (fun _ U o U' => ∃ v L, o = .returned v ∧ QA3 Z a1 xa ya kx ky x X x0 y0 x1 y1 x2 y2 PX0 PY0 PX1 PY1 PX2 PY2 h0 n0 v U'.heap L ∧ FrameEnd U o U' L ({ frames := 0, cells := 0, slots := 0, locals := 0 } : Room).cells ({ frames := 0, cells := 0, slots := 0, locals := 0 } : Room).slots) := by
  refine MetFree.of_bodySF (plainFor_of_name pn_com_example_options_into_arguments_optionsintoarguments_quality_Curve) hisR ?_
  intro p e s m args below meth c s₁ Bd hml0 hP hK
  obtain ⟨rfl, hZ, hh⟩ := hP
  have hx := Bd.exec
  have hby := Bd.bytes
  have hlk : meth.locks = false := BodyLoose.notSynchronized Bd
  have hml : c.maxLocals = 7 := hml0
  have hown : s.vm.findClass "com/example/options_into_arguments/optionsintoarguments/quality/Curve" = some m.cls := findClass_of_methodNamed Bd.named
  have hnm := (name_of_methodNamed Bd.named Bd.method).1
  have X0 : Stand p l e ({ frames := 0, cells := 0, slots := 0, locals := 0 } : Room) s m #[(.ref a1), (.double x)] below meth c s₁ [] 0 0 := Stand.of_body Bd
  have e0 : s₁.heap = h0 := by rw [← hh, Bd.state]; rfl
  have N0 := Fr.nil n0
  show own_G p.tables e below s (QA3 Z a1 xa ya kx ky x X x0 y0 x1 y1 x2 y2 PX0 PY0 PX1 PY1 PX2 PY2 h0 n0) ({ frames := 0, cells := 0, slots := 0, locals := 0 } : Room).cells ({ frames := 0, cells := 0, slots := 0, locals := 0 } : Room).slots (s₁.setTop (entryFrame m #[(.ref a1), (.double x)] 7))
  refine own_go (fun t k => castTop (ef_A3 m a1 x) k) ?_
  show own_G p.tables e below s _ _ _ (s₁.setTop (mkF m 0 #[.val (.ref a1), .val (.double x), .second, .unset, .unset, .unset, .unset] []))
  refine own_go (fun t k => XS.aloadN X0.here hx rfl (hb hby dA3_0) rfl rfl k) ?_
  show own_G p.tables e below s _ _ _ (s₁.setTop (mkF m 1 #[.val (.ref a1), .val (.double x), .second, .unset, .unset, .unset, .unset] [(.ref a1)]))
  obtain ⟨T279, X279, e279, st279⟩ := getF X0 hx hZ hown (host := "") (Or.inl (hw _ (List.mem_of_getElem? (i := 16) rfl))) Via.refl e0 F1 (g := (mkF m 1 #[.val (.ref a1), .val (.double x), .second, .unset, .unset, .unset, .unset] [(.ref a1)])) rfl rfl (hb hby dA3_1)
  refine own_go st279 ?_
  show own_G p.tables e below s _ _ _ (T279.setTop (mkF m 4 #[.val (.ref a1), .val (.double x), .second, .unset, .unset, .unset, .unset] [(.ref xa)]))
  obtain ⟨cl280, Ar280, q280, S280, NN280, HH280, GG280⟩ := id V1
  have hlen280 := len_of S280 NN280
  refine own_go (A := T279.setTop (mkF m 5 #[.val (.ref a1), .val (.double x), .second, .unset, .unset, .unset, .unset] [(.int (3 : Int32))])) (fun t k => X279.arraylength hx (by rw [e279]; exact Ar280.1) (State.isArrayOf_alike hZ.alike Ar280.2.1) (g := (mkF m 4 #[.val (.ref a1), .val (.double x), .second, .unset, .unset, .unset, .unset] [(.ref xa)])) rfl rfl (hb hby dA3_4) _ (by rw [hlen280]; exact k)) ?_
  show own_G p.tables e below s _ _ _ (T279.setTop (mkF m 5 #[.val (.ref a1), .val (.double x), .second, .unset, .unset, .unset, .unset] [(.int (3 : Int32))]))
  refine own_go (fun t k => XS.iconst X279.here hx rfl (hb hby dA3_5) k) ?_
  show own_G p.tables e below s _ _ _ (T279.setTop (mkF m 6 #[.val (.ref a1), .val (.double x), .second, .unset, .unset, .unset, .unset] [(.int (1 : Int32)), (.int (3 : Int32))]))
  refine own_go (fun t k => XS.isub X279.here hx rfl (hb hby dA3_6) rfl k) ?_
  show own_G p.tables e below s _ _ _ (T279.setTop (mkF m 7 #[.val (.ref a1), .val (.double x), .second, .unset, .unset, .unset, .unset] [(.int (2 : Int32))]))
  refine own_go (fun t k => XS.istoreN X279.here hx rfl (hb hby dA3_7) rfl (l' := #[.val (.ref a1), .val (.double x), .second, .val (.int (2 : Int32)), .unset, .unset, .unset]) rfl k) ?_
  show own_G p.tables e below s _ _ _ (T279.setTop (mkF m 8 #[.val (.ref a1), .val (.double x), .second, .val (.int (2 : Int32)), .unset, .unset, .unset] []))
  refine own_go (fun t k => XS.dloadN X279.here hx rfl (hb hby dA3_8) rfl k) ?_
  show own_G p.tables e below s _ _ _ (T279.setTop (mkF m 9 #[.val (.ref a1), .val (.double x), .second, .val (.int (2 : Int32)), .unset, .unset, .unset] [(.double x)]))
  refine own_go (fun t k => XS.aloadN X279.here hx rfl (hb hby dA3_9) rfl rfl k) ?_
  show own_G p.tables e below s _ _ _ (T279.setTop (mkF m 10 #[.val (.ref a1), .val (.double x), .second, .val (.int (2 : Int32)), .unset, .unset, .unset] [(.ref a1), (.double x)]))
  obtain ⟨T281, X281, e281, st281⟩ := getF X279 hx hZ hown (host := "") (Or.inl (hw _ (List.mem_of_getElem? (i := 16) rfl))) Via.refl e279 F1 (g := (mkF m 10 #[.val (.ref a1), .val (.double x), .second, .val (.int (2 : Int32)), .unset, .unset, .unset] [(.ref a1), (.double x)])) rfl rfl (hb hby dA3_10)
  refine own_go st281 ?_
  show own_G p.tables e below s _ _ _ (T281.setTop (mkF m 13 #[.val (.ref a1), .val (.double x), .second, .val (.int (2 : Int32)), .unset, .unset, .unset] [(.ref xa), (.double x)]))
  refine own_go (fun t k => XS.iconst X281.here hx rfl (hb hby dA3_13) k) ?_
  show own_G p.tables e below s _ _ _ (T281.setTop (mkF m 14 #[.val (.ref a1), .val (.double x), .second, .val (.int (2 : Int32)), .unset, .unset, .unset] [(.int (0 : Int32)), (.ref xa), (.double x)]))
  obtain ⟨cl282, Ar282, q282, S282, NN282, HH282, GG282⟩ := id V1
  have hin282 : ¬ ((0 : Int32) < 0 ∨ cl282.slots.size ≤ ((0 : Int32)).toNatClampNeg) := inb_of S282 ⟨by decide, by decide⟩
  have hat282 : cl282.slots[((0 : Int32)).toNatClampNeg]? = some (.double x0) := Has.at HH282 hin282 rfl
  refine own_go (fun t k => X281.daload hx (j := (0 : Int32)) (v := (.double x0)) (by rw [e281]; exact Ar282.1) (State.isArrayOf_alike hZ.alike Ar282.2.1) Ar282.2.2 hin282 hat282 (g := (mkF m 14 #[.val (.ref a1), .val (.double x), .second, .val (.int (2 : Int32)), .unset, .unset, .unset] [(.int (0 : Int32)), (.ref xa), (.double x)])) rfl rfl (hb hby dA3_14) _ k) ?_
  show own_G p.tables e below s _ _ _ (T281.setTop (mkF m 15 #[.val (.ref a1), .val (.double x), .second, .val (.int (2 : Int32)), .unset, .unset, .unset] [(.double x0), (.double x)]))
  refine own_go (fun t k => XS.dcmpS X281.here hx rfl (hb hby dA3_15) rfl (own_cmpv hxx hx0) k) ?_
  show own_G p.tables e below s _ _ _ (T281.setTop (mkF m 16 #[.val (.ref a1), .val (.double x), .second, .val (.int (2 : Int32)), .unset, .unset, .unset] [(.int (own_c (X) (PX0)))]))
  refine own_go (fun t k => XS.ifNo X281.here hx rfl (hb hby dA3_16) rfl (Jvm.Free.XT.i0_gt_f (own_c_le hA)) k) ?_
  show own_G p.tables e below s _ _ _ (T281.setTop (mkF m 19 #[.val (.ref a1), .val (.double x), .second, .val (.int (2 : Int32)), .unset, .unset, .unset] []))
  refine own_go (fun t k => XS.aloadN X281.here hx rfl (hb hby dA3_19) rfl rfl k) ?_
  show own_G p.tables e below s _ _ _ (T281.setTop (mkF m 20 #[.val (.ref a1), .val (.double x), .second, .val (.int (2 : Int32)), .unset, .unset, .unset] [(.ref a1)]))
  obtain ⟨T283, X283, e283, st283⟩ := getF X281 hx hZ hown (host := "") (Or.inl (hw _ (List.mem_of_getElem? (i := 18) rfl))) Via.refl e281 F2 (g := (mkF m 20 #[.val (.ref a1), .val (.double x), .second, .val (.int (2 : Int32)), .unset, .unset, .unset] [(.ref a1)])) rfl rfl (hb hby dA3_20)
  refine own_go st283 ?_
  show own_G p.tables e below s _ _ _ (T283.setTop (mkF m 23 #[.val (.ref a1), .val (.double x), .second, .val (.int (2 : Int32)), .unset, .unset, .unset] [(.ref ya)]))
  refine own_go (fun t k => XS.iconst X283.here hx rfl (hb hby dA3_23) k) ?_
  show own_G p.tables e below s _ _ _ (T283.setTop (mkF m 24 #[.val (.ref a1), .val (.double x), .second, .val (.int (2 : Int32)), .unset, .unset, .unset] [(.int (0 : Int32)), (.ref ya)]))
  obtain ⟨cl284, Ar284, q284, S284, NN284, HH284, GG284⟩ := id V2
  have hin284 : ¬ ((0 : Int32) < 0 ∨ cl284.slots.size ≤ ((0 : Int32)).toNatClampNeg) := inb_of S284 ⟨by decide, by decide⟩
  have hat284 : cl284.slots[((0 : Int32)).toNatClampNeg]? = some (.double y0) := Has.at HH284 hin284 rfl
  refine own_go (fun t k => X283.daload hx (j := (0 : Int32)) (v := (.double y0)) (by rw [e283]; exact Ar284.1) (State.isArrayOf_alike hZ.alike Ar284.2.1) Ar284.2.2 hin284 hat284 (g := (mkF m 24 #[.val (.ref a1), .val (.double x), .second, .val (.int (2 : Int32)), .unset, .unset, .unset] [(.int (0 : Int32)), (.ref ya)])) rfl rfl (hb hby dA3_24) _ k) ?_
  show own_G p.tables e below s _ _ _ (T283.setTop (mkF m 25 #[.val (.ref a1), .val (.double x), .second, .val (.int (2 : Int32)), .unset, .unset, .unset] [(.double y0)]))
  refine own_go (fun t k => XS.dstore X283.here hx rfl (hb hby dA3_25) rfl (l' := #[.val (.ref a1), .val (.double x), .second, .val (.int (2 : Int32)), .val (.double y0), .second, .unset]) rfl k) ?_
  show own_G p.tables e below s _ _ _ (T283.setTop (mkF m 27 #[.val (.ref a1), .val (.double x), .second, .val (.int (2 : Int32)), .val (.double y0), .second, .unset] []))
  refine own_go (fun t k => XS.goto X283.here hx rfl (pc0 := 27) (pc' := 132) rfl (hb hby dA3_27) (by decide) (by decide) k) ?_
  show own_G p.tables e below s _ _ _ (T283.setTop (mkF m 132 #[.val (.ref a1), .val (.double x), .second, .val (.int (2 : Int32)), .val (.double y0), .second, .unset] []))
  refine own_go (fun t k => XS.dload X283.here hx rfl (hb hby dA3_132) rfl k) ?_
  show own_G p.tables e below s _ _ _ (T283.setTop (mkF m 134 #[.val (.ref a1), .val (.double x), .second, .val (.int (2 : Int32)), .val (.double y0), .second, .unset] [(.double y0)]))
  exact own_retD X283 hx hlk Bd.returns (hb hby dA3_134) (by rw [e283]; exact ⟨⟨_, rfl, hy0⟩, N0, rfl⟩) (by decide) (by decide)
theorem dB3_0 : decode prog_17_method_3_code 0 = .ok (.aload_n 0, 1) := by decide +kernel
theorem dB3_1 : decode prog_17_method_3_code 1 = .ok (.getfield 7, 3) := by decide +kernel
theorem dB3_4 : decode prog_17_method_3_code 4 = .ok (.arraylength, 1) := by decide +kernel
theorem dB3_5 : decode prog_17_method_3_code 5 = .ok (.iconst 1, 1) := by decide +kernel
theorem dB3_6 : decode prog_17_method_3_code 6 = .ok (.isub, 1) := by decide +kernel
theorem dB3_7 : decode prog_17_method_3_code 7 = .ok (.istore_n 3, 1) := by decide +kernel
theorem dB3_8 : decode prog_17_method_3_code 8 = .ok (.dload_n 1, 1) := by decide +kernel
theorem dB3_9 : decode prog_17_method_3_code 9 = .ok (.aload_n 0, 1) := by decide +kernel
theorem dB3_10 : decode prog_17_method_3_code 10 = .ok (.getfield 7, 3) := by decide +kernel
theorem dB3_13 : decode prog_17_method_3_code 13 = .ok (.iconst 0, 1) := by decide +kernel
theorem dB3_14 : decode prog_17_method_3_code 14 = .ok (.daload, 1) := by decide +kernel
theorem dB3_15 : decode prog_17_method_3_code 15 = .ok (.dcmp .g, 1) := by decide +kernel
theorem dB3_16 : decode prog_17_method_3_code 16 = .ok (.ifCond .gt 14, 3) := by decide +kernel
theorem dB3_30 : decode prog_17_method_3_code 30 = .ok (.dload_n 1, 1) := by decide +kernel
theorem dB3_31 : decode prog_17_method_3_code 31 = .ok (.aload_n 0, 1) := by decide +kernel
theorem dB3_32 : decode prog_17_method_3_code 32 = .ok (.getfield 7, 3) := by decide +kernel
theorem dB3_35 : decode prog_17_method_3_code 35 = .ok (.iload_n 3, 1) := by decide +kernel
theorem dB3_36 : decode prog_17_method_3_code 36 = .ok (.daload, 1) := by decide +kernel
theorem dB3_37 : decode prog_17_method_3_code 37 = .ok (.dcmp .l, 1) := by decide +kernel
theorem dB3_38 : decode prog_17_method_3_code 38 = .ok (.ifCond .lt 14, 3) := by decide +kernel
theorem dB3_41 : decode prog_17_method_3_code 41 = .ok (.aload_n 0, 1) := by decide +kernel
theorem dB3_42 : decode prog_17_method_3_code 42 = .ok (.getfield 13, 3) := by decide +kernel
theorem dB3_45 : decode prog_17_method_3_code 45 = .ok (.iload_n 3, 1) := by decide +kernel
theorem dB3_46 : decode prog_17_method_3_code 46 = .ok (.daload, 1) := by decide +kernel
theorem dB3_47 : decode prog_17_method_3_code 47 = .ok (.dstore 4, 2) := by decide +kernel
theorem dB3_49 : decode prog_17_method_3_code 49 = .ok (.goto 83, 3) := by decide +kernel
theorem dB3_132 : decode prog_17_method_3_code 132 = .ok (.dload 4, 2) := by decide +kernel
theorem dB3_134 : decode prog_17_method_3_code 134 = .ok (.dreturn, 1) := by decide +kernel
theorem ef_B3 (m : MethodId) (x0 : Addr) (x1 : UInt64) : entryFrame m #[(.ref x0), (.double x1)] 7 = mkF m 0 #[.val (.ref x0), .val (.double x1), .second, .unset, .unset, .unset, .unset] [] := by first | (simp [entryFrame, mkF, argsToLocals, Value.category]; done) | rfl
def QB3 (Z : State) (a1 xa ya : Addr) (kx ky : ClassId) (x : UInt64) (X : Int) (x0 y0 x1 y1 x2 y2 : UInt64) (PX0 PY0 PX1 PY1 PX2 PY2 : Int) (h0 : Heap) (n0 : Nat) (v : Option Value) (h : Heap) (L : List Loc) : Prop := (∃ w : UInt64, v = some (.double w) ∧ own_E (PY2) w) ∧ Fr n0 L ∧ h = h0
set_option maxRecDepth 65536 in
set_option maxHeartbeats 40000000 in
theorem rmB3 (l : Launch) (Z : State) (a0 : Array Value) (hw : ∀ d ∈ tables_1, d.before a0 Z = true) (ws : List Jvm.Cond) (a1 xa ya : Addr) (kx ky : ClassId) (x : UInt64) (X : Int) (x0 y0 x1 y1 x2 y2 : UInt64) (PX0 PY0 PX1 PY1 PX2 PY2 : Int) (h0 : Heap) (n0 : Nat) (Z0 : n0 ≤ h0.size) (hxx : own_E X x) (hx0 : own_E PX0 x0) (hy0 : own_E PY0 y0) (hx1 : own_E PX1 x1) (hy1 : own_E PY1 y1) (hx2 : own_E PX2 x2) (hy2 : own_E PY2 y2) (F1 : Fld Z h0 a1 "com/example/options_into_arguments/optionsintoarguments/quality/Curve" "xs" "[D" (.ref xa)) (F2 : Fld Z h0 a1 "com/example/options_into_arguments/optionsintoarguments/quality/Curve" "ys" "[D" (.ref ya)) (V1 : Arv Z h0 xa kx .double (3 : Int32) [(.double x0), (.double x1), (.double x2)] (.double 0)) (V2 : Arv Z h0 ya ky .double (3 : Int32) [(.double y0), (.double y1), (.double y2)] (.double 0)) (hB : PX0 < X) (hB2 : PX2 ≤ X) :
    MetFree l (⟨"com/example/options_into_arguments/optionsintoarguments/quality/Curve", "at", "(D)D"⟩ : MethodName) (head1 (Jvm.Cond.code (⟨"com/example/options_into_arguments/optionsintoarguments/quality/Curve", "at", "(D)D"⟩ : MethodName) prog_17_method_3_code 7 (some .double) :: ws) ({ frames := 0, cells := 0, slots := 0, locals := 0 } : Room)) (fun a U => a = #[(.ref a1), (.double x)] ∧ Z.Warmed39 U.vm ∧ U.heap = h0) (fun _ _ _ _ _ => True) (fun _ U o U' => ∃ v L, o = .returned v ∧ QB3 Z a1 xa ya kx ky x X x0 y0 x1 y1 x2 y2 PX0 PY0 PX1 PY1 PX2 PY2 h0 n0 v U'.heap L ∧ FrameEnd U o U' L ({ frames := 0, cells := 0, slots := 0, locals := 0 } : Room).cells ({ frames := 0, cells := 0, slots := 0, locals := 0 } : Room).slots) := by
  refine MetFree.of_bodySF (plainFor_of_name pn_com_example_options_into_arguments_optionsintoarguments_quality_Curve) hisR ?_
  intro p e s m args below meth c s₁ Bd hml0 hP hK
  obtain ⟨rfl, hZ, hh⟩ := hP
  have hx := Bd.exec
  have hby := Bd.bytes
  have hlk : meth.locks = false := BodyLoose.notSynchronized Bd
  have hml : c.maxLocals = 7 := hml0
  have hown : s.vm.findClass "com/example/options_into_arguments/optionsintoarguments/quality/Curve" = some m.cls := findClass_of_methodNamed Bd.named
  have hnm := (name_of_methodNamed Bd.named Bd.method).1
  have X0 : Stand p l e ({ frames := 0, cells := 0, slots := 0, locals := 0 } : Room) s m #[(.ref a1), (.double x)] below meth c s₁ [] 0 0 := Stand.of_body Bd
  have e0 : s₁.heap = h0 := by rw [← hh, Bd.state]; rfl
  have N0 := Fr.nil n0
  show own_G p.tables e below s (QB3 Z a1 xa ya kx ky x X x0 y0 x1 y1 x2 y2 PX0 PY0 PX1 PY1 PX2 PY2 h0 n0) ({ frames := 0, cells := 0, slots := 0, locals := 0 } : Room).cells ({ frames := 0, cells := 0, slots := 0, locals := 0 } : Room).slots (s₁.setTop (entryFrame m #[(.ref a1), (.double x)] 7))
  refine own_go (fun t k => castTop (ef_B3 m a1 x) k) ?_
  show own_G p.tables e below s _ _ _ (s₁.setTop (mkF m 0 #[.val (.ref a1), .val (.double x), .second, .unset, .unset, .unset, .unset] []))
  refine own_go (fun t k => XS.aloadN X0.here hx rfl (hb hby dB3_0) rfl rfl k) ?_
  show own_G p.tables e below s _ _ _ (s₁.setTop (mkF m 1 #[.val (.ref a1), .val (.double x), .second, .unset, .unset, .unset, .unset] [(.ref a1)]))
  obtain ⟨T285, X285, e285, st285⟩ := getF X0 hx hZ hown (host := "") (Or.inl (hw _ (List.mem_of_getElem? (i := 16) rfl))) Via.refl e0 F1 (g := (mkF m 1 #[.val (.ref a1), .val (.double x), .second, .unset, .unset, .unset, .unset] [(.ref a1)])) rfl rfl (hb hby dB3_1)
  refine own_go st285 ?_
  show own_G p.tables e below s _ _ _ (T285.setTop (mkF m 4 #[.val (.ref a1), .val (.double x), .second, .unset, .unset, .unset, .unset] [(.ref xa)]))
  obtain ⟨cl286, Ar286, q286, S286, NN286, HH286, GG286⟩ := id V1
  have hlen286 := len_of S286 NN286
  refine own_go (A := T285.setTop (mkF m 5 #[.val (.ref a1), .val (.double x), .second, .unset, .unset, .unset, .unset] [(.int (3 : Int32))])) (fun t k => X285.arraylength hx (by rw [e285]; exact Ar286.1) (State.isArrayOf_alike hZ.alike Ar286.2.1) (g := (mkF m 4 #[.val (.ref a1), .val (.double x), .second, .unset, .unset, .unset, .unset] [(.ref xa)])) rfl rfl (hb hby dB3_4) _ (by rw [hlen286]; exact k)) ?_
  show own_G p.tables e below s _ _ _ (T285.setTop (mkF m 5 #[.val (.ref a1), .val (.double x), .second, .unset, .unset, .unset, .unset] [(.int (3 : Int32))]))
  refine own_go (fun t k => XS.iconst X285.here hx rfl (hb hby dB3_5) k) ?_
  show own_G p.tables e below s _ _ _ (T285.setTop (mkF m 6 #[.val (.ref a1), .val (.double x), .second, .unset, .unset, .unset, .unset] [(.int (1 : Int32)), (.int (3 : Int32))]))
  refine own_go (fun t k => XS.isub X285.here hx rfl (hb hby dB3_6) rfl k) ?_
  show own_G p.tables e below s _ _ _ (T285.setTop (mkF m 7 #[.val (.ref a1), .val (.double x), .second, .unset, .unset, .unset, .unset] [(.int (2 : Int32))]))
  refine own_go (fun t k => XS.istoreN X285.here hx rfl (hb hby dB3_7) rfl (l' := #[.val (.ref a1), .val (.double x), .second, .val (.int (2 : Int32)), .unset, .unset, .unset]) rfl k) ?_
  show own_G p.tables e below s _ _ _ (T285.setTop (mkF m 8 #[.val (.ref a1), .val (.double x), .second, .val (.int (2 : Int32)), .unset, .unset, .unset] []))
  refine own_go (fun t k => XS.dloadN X285.here hx rfl (hb hby dB3_8) rfl k) ?_
  show own_G p.tables e below s _ _ _ (T285.setTop (mkF m 9 #[.val (.ref a1), .val (.double x), .second, .val (.int (2 : Int32)), .unset, .unset, .unset] [(.double x)]))
  refine own_go (fun t k => XS.aloadN X285.here hx rfl (hb hby dB3_9) rfl rfl k) ?_
  show own_G p.tables e below s _ _ _ (T285.setTop (mkF m 10 #[.val (.ref a1), .val (.double x), .second, .val (.int (2 : Int32)), .unset, .unset, .unset] [(.ref a1), (.double x)]))
  obtain ⟨T287, X287, e287, st287⟩ := getF X285 hx hZ hown (host := "") (Or.inl (hw _ (List.mem_of_getElem? (i := 16) rfl))) Via.refl e285 F1 (g := (mkF m 10 #[.val (.ref a1), .val (.double x), .second, .val (.int (2 : Int32)), .unset, .unset, .unset] [(.ref a1), (.double x)])) rfl rfl (hb hby dB3_10)
  refine own_go st287 ?_
  show own_G p.tables e below s _ _ _ (T287.setTop (mkF m 13 #[.val (.ref a1), .val (.double x), .second, .val (.int (2 : Int32)), .unset, .unset, .unset] [(.ref xa), (.double x)]))
  refine own_go (fun t k => XS.iconst X287.here hx rfl (hb hby dB3_13) k) ?_
  show own_G p.tables e below s _ _ _ (T287.setTop (mkF m 14 #[.val (.ref a1), .val (.double x), .second, .val (.int (2 : Int32)), .unset, .unset, .unset] [(.int (0 : Int32)), (.ref xa), (.double x)]))
  obtain ⟨cl288, Ar288, q288, S288, NN288, HH288, GG288⟩ := id V1
  have hin288 : ¬ ((0 : Int32) < 0 ∨ cl288.slots.size ≤ ((0 : Int32)).toNatClampNeg) := inb_of S288 ⟨by decide, by decide⟩
  have hat288 : cl288.slots[((0 : Int32)).toNatClampNeg]? = some (.double x0) := Has.at HH288 hin288 rfl
  refine own_go (fun t k => X287.daload hx (j := (0 : Int32)) (v := (.double x0)) (by rw [e287]; exact Ar288.1) (State.isArrayOf_alike hZ.alike Ar288.2.1) Ar288.2.2 hin288 hat288 (g := (mkF m 14 #[.val (.ref a1), .val (.double x), .second, .val (.int (2 : Int32)), .unset, .unset, .unset] [(.int (0 : Int32)), (.ref xa), (.double x)])) rfl rfl (hb hby dB3_14) _ k) ?_
  show own_G p.tables e below s _ _ _ (T287.setTop (mkF m 15 #[.val (.ref a1), .val (.double x), .second, .val (.int (2 : Int32)), .unset, .unset, .unset] [(.double x0), (.double x)]))
  refine own_go (fun t k => XS.dcmpS X287.here hx rfl (hb hby dB3_15) rfl (own_cmpv hxx hx0) k) ?_
  show own_G p.tables e below s _ _ _ (T287.setTop (mkF m 16 #[.val (.ref a1), .val (.double x), .second, .val (.int (2 : Int32)), .unset, .unset, .unset] [(.int (own_c (X) (PX0)))]))
  refine own_go (fun t k => XS.ifYes X287.here hx rfl (pc0 := 16) (pc' := 30) rfl (hb hby dB3_16) rfl (Jvm.Free.XT.i0_gt_t (own_c_gt hB)) (by decide) (by decide) k) ?_
  show own_G p.tables e below s _ _ _ (T287.setTop (mkF m 30 #[.val (.ref a1), .val (.double x), .second, .val (.int (2 : Int32)), .unset, .unset, .unset] []))
  refine own_go (fun t k => XS.dloadN X287.here hx rfl (hb hby dB3_30) rfl k) ?_
  show own_G p.tables e below s _ _ _ (T287.setTop (mkF m 31 #[.val (.ref a1), .val (.double x), .second, .val (.int (2 : Int32)), .unset, .unset, .unset] [(.double x)]))
  refine own_go (fun t k => XS.aloadN X287.here hx rfl (hb hby dB3_31) rfl rfl k) ?_
  show own_G p.tables e below s _ _ _ (T287.setTop (mkF m 32 #[.val (.ref a1), .val (.double x), .second, .val (.int (2 : Int32)), .unset, .unset, .unset] [(.ref a1), (.double x)]))
  obtain ⟨T289, X289, e289, st289⟩ := getF X287 hx hZ hown (host := "") (Or.inl (hw _ (List.mem_of_getElem? (i := 16) rfl))) Via.refl e287 F1 (g := (mkF m 32 #[.val (.ref a1), .val (.double x), .second, .val (.int (2 : Int32)), .unset, .unset, .unset] [(.ref a1), (.double x)])) rfl rfl (hb hby dB3_32)
  refine own_go st289 ?_
  show own_G p.tables e below s _ _ _ (T289.setTop (mkF m 35 #[.val (.ref a1), .val (.double x), .second, .val (.int (2 : Int32)), .unset, .unset, .unset] [(.ref xa), (.double x)]))
  refine own_go (fun t k => XS.iloadN X289.here hx rfl (hb hby dB3_35) rfl k) ?_
  show own_G p.tables e below s _ _ _ (T289.setTop (mkF m 36 #[.val (.ref a1), .val (.double x), .second, .val (.int (2 : Int32)), .unset, .unset, .unset] [(.int (2 : Int32)), (.ref xa), (.double x)]))
  obtain ⟨cl290, Ar290, q290, S290, NN290, HH290, GG290⟩ := id V1
  have hin290 : ¬ ((2 : Int32) < 0 ∨ cl290.slots.size ≤ ((2 : Int32)).toNatClampNeg) := inb_of S290 ⟨by decide, by decide⟩
  have hat290 : cl290.slots[((2 : Int32)).toNatClampNeg]? = some (.double x2) := Has.at HH290 hin290 rfl
  refine own_go (fun t k => X289.daload hx (j := (2 : Int32)) (v := (.double x2)) (by rw [e289]; exact Ar290.1) (State.isArrayOf_alike hZ.alike Ar290.2.1) Ar290.2.2 hin290 hat290 (g := (mkF m 36 #[.val (.ref a1), .val (.double x), .second, .val (.int (2 : Int32)), .unset, .unset, .unset] [(.int (2 : Int32)), (.ref xa), (.double x)])) rfl rfl (hb hby dB3_36) _ k) ?_
  show own_G p.tables e below s _ _ _ (T289.setTop (mkF m 37 #[.val (.ref a1), .val (.double x), .second, .val (.int (2 : Int32)), .unset, .unset, .unset] [(.double x2), (.double x)]))
  refine own_go (fun t k => XS.dcmpS X289.here hx rfl (hb hby dB3_37) rfl (own_cmpv hxx hx2) k) ?_
  show own_G p.tables e below s _ _ _ (T289.setTop (mkF m 38 #[.val (.ref a1), .val (.double x), .second, .val (.int (2 : Int32)), .unset, .unset, .unset] [(.int (own_c (X) (PX2)))]))
  refine own_go (fun t k => XS.ifNo X289.here hx rfl (hb hby dB3_38) rfl (Jvm.Free.XT.i0_lt_f (own_c_ge hB2)) k) ?_
  show own_G p.tables e below s _ _ _ (T289.setTop (mkF m 41 #[.val (.ref a1), .val (.double x), .second, .val (.int (2 : Int32)), .unset, .unset, .unset] []))
  refine own_go (fun t k => XS.aloadN X289.here hx rfl (hb hby dB3_41) rfl rfl k) ?_
  show own_G p.tables e below s _ _ _ (T289.setTop (mkF m 42 #[.val (.ref a1), .val (.double x), .second, .val (.int (2 : Int32)), .unset, .unset, .unset] [(.ref a1)]))
  obtain ⟨T291, X291, e291, st291⟩ := getF X289 hx hZ hown (host := "") (Or.inl (hw _ (List.mem_of_getElem? (i := 18) rfl))) Via.refl e289 F2 (g := (mkF m 42 #[.val (.ref a1), .val (.double x), .second, .val (.int (2 : Int32)), .unset, .unset, .unset] [(.ref a1)])) rfl rfl (hb hby dB3_42)
  refine own_go st291 ?_
  show own_G p.tables e below s _ _ _ (T291.setTop (mkF m 45 #[.val (.ref a1), .val (.double x), .second, .val (.int (2 : Int32)), .unset, .unset, .unset] [(.ref ya)]))
  refine own_go (fun t k => XS.iloadN X291.here hx rfl (hb hby dB3_45) rfl k) ?_
  show own_G p.tables e below s _ _ _ (T291.setTop (mkF m 46 #[.val (.ref a1), .val (.double x), .second, .val (.int (2 : Int32)), .unset, .unset, .unset] [(.int (2 : Int32)), (.ref ya)]))
  obtain ⟨cl292, Ar292, q292, S292, NN292, HH292, GG292⟩ := id V2
  have hin292 : ¬ ((2 : Int32) < 0 ∨ cl292.slots.size ≤ ((2 : Int32)).toNatClampNeg) := inb_of S292 ⟨by decide, by decide⟩
  have hat292 : cl292.slots[((2 : Int32)).toNatClampNeg]? = some (.double y2) := Has.at HH292 hin292 rfl
  refine own_go (fun t k => X291.daload hx (j := (2 : Int32)) (v := (.double y2)) (by rw [e291]; exact Ar292.1) (State.isArrayOf_alike hZ.alike Ar292.2.1) Ar292.2.2 hin292 hat292 (g := (mkF m 46 #[.val (.ref a1), .val (.double x), .second, .val (.int (2 : Int32)), .unset, .unset, .unset] [(.int (2 : Int32)), (.ref ya)])) rfl rfl (hb hby dB3_46) _ k) ?_
  show own_G p.tables e below s _ _ _ (T291.setTop (mkF m 47 #[.val (.ref a1), .val (.double x), .second, .val (.int (2 : Int32)), .unset, .unset, .unset] [(.double y2)]))
  refine own_go (fun t k => XS.dstore X291.here hx rfl (hb hby dB3_47) rfl (l' := #[.val (.ref a1), .val (.double x), .second, .val (.int (2 : Int32)), .val (.double y2), .second, .unset]) rfl k) ?_
  show own_G p.tables e below s _ _ _ (T291.setTop (mkF m 49 #[.val (.ref a1), .val (.double x), .second, .val (.int (2 : Int32)), .val (.double y2), .second, .unset] []))
  refine own_go (fun t k => XS.goto X291.here hx rfl (pc0 := 49) (pc' := 132) rfl (hb hby dB3_49) (by decide) (by decide) k) ?_
  show own_G p.tables e below s _ _ _ (T291.setTop (mkF m 132 #[.val (.ref a1), .val (.double x), .second, .val (.int (2 : Int32)), .val (.double y2), .second, .unset] []))
  refine own_go (fun t k => XS.dload X291.here hx rfl (hb hby dB3_132) rfl k) ?_
  show own_G p.tables e below s _ _ _ (T291.setTop (mkF m 134 #[.val (.ref a1), .val (.double x), .second, .val (.int (2 : Int32)), .val (.double y2), .second, .unset] [(.double y2)]))
  exact own_retD X291 hx hlk Bd.returns (hb hby dB3_134) (by rw [e291]; exact ⟨⟨_, rfl, hy2⟩, N0, rfl⟩) (by decide) (by decide)
theorem dC2_1_0 : decode prog_17_method_3_code 0 = .ok (.aload_n 0, 1) := by decide +kernel
theorem dC2_1_1 : decode prog_17_method_3_code 1 = .ok (.getfield 7, 3) := by decide +kernel
theorem dC2_1_4 : decode prog_17_method_3_code 4 = .ok (.arraylength, 1) := by decide +kernel
theorem dC2_1_5 : decode prog_17_method_3_code 5 = .ok (.iconst 1, 1) := by decide +kernel
theorem dC2_1_6 : decode prog_17_method_3_code 6 = .ok (.isub, 1) := by decide +kernel
theorem dC2_1_7 : decode prog_17_method_3_code 7 = .ok (.istore_n 3, 1) := by decide +kernel
theorem dC2_1_8 : decode prog_17_method_3_code 8 = .ok (.dload_n 1, 1) := by decide +kernel
theorem dC2_1_9 : decode prog_17_method_3_code 9 = .ok (.aload_n 0, 1) := by decide +kernel
theorem dC2_1_10 : decode prog_17_method_3_code 10 = .ok (.getfield 7, 3) := by decide +kernel
theorem dC2_1_13 : decode prog_17_method_3_code 13 = .ok (.iconst 0, 1) := by decide +kernel
theorem dC2_1_14 : decode prog_17_method_3_code 14 = .ok (.daload, 1) := by decide +kernel
theorem dC2_1_15 : decode prog_17_method_3_code 15 = .ok (.dcmp .g, 1) := by decide +kernel
theorem dC2_1_16 : decode prog_17_method_3_code 16 = .ok (.ifCond .gt 14, 3) := by decide +kernel
theorem dC2_1_30 : decode prog_17_method_3_code 30 = .ok (.dload_n 1, 1) := by decide +kernel
theorem dC2_1_31 : decode prog_17_method_3_code 31 = .ok (.aload_n 0, 1) := by decide +kernel
theorem dC2_1_32 : decode prog_17_method_3_code 32 = .ok (.getfield 7, 3) := by decide +kernel
theorem dC2_1_35 : decode prog_17_method_3_code 35 = .ok (.iload_n 3, 1) := by decide +kernel
theorem dC2_1_36 : decode prog_17_method_3_code 36 = .ok (.daload, 1) := by decide +kernel
theorem dC2_1_37 : decode prog_17_method_3_code 37 = .ok (.dcmp .l, 1) := by decide +kernel
theorem dC2_1_38 : decode prog_17_method_3_code 38 = .ok (.ifCond .lt 14, 3) := by decide +kernel
theorem dC2_1_52 : decode prog_17_method_3_code 52 = .ok (.iconst 1, 1) := by decide +kernel
theorem dC2_1_53 : decode prog_17_method_3_code 53 = .ok (.istore 6, 2) := by decide +kernel
theorem dC2_1_55 : decode prog_17_method_3_code 55 = .ok (.aload_n 0, 1) := by decide +kernel
theorem dC2_1_56 : decode prog_17_method_3_code 56 = .ok (.getfield 7, 3) := by decide +kernel
theorem dC2_1_59 : decode prog_17_method_3_code 59 = .ok (.iload 6, 2) := by decide +kernel
theorem dC2_1_61 : decode prog_17_method_3_code 61 = .ok (.daload, 1) := by decide +kernel
theorem dC2_1_62 : decode prog_17_method_3_code 62 = .ok (.dload_n 1, 1) := by decide +kernel
theorem dC2_1_63 : decode prog_17_method_3_code 63 = .ok (.dcmp .g, 1) := by decide +kernel
theorem dC2_1_64 : decode prog_17_method_3_code 64 = .ok (.ifCond .ge 9, 3) := by decide +kernel
theorem dC2_1_73 : decode prog_17_method_3_code 73 = .ok (.aload_n 0, 1) := by decide +kernel
theorem dC2_1_74 : decode prog_17_method_3_code 74 = .ok (.getfield 13, 3) := by decide +kernel
theorem dC2_1_77 : decode prog_17_method_3_code 77 = .ok (.iload 6, 2) := by decide +kernel
theorem dC2_1_79 : decode prog_17_method_3_code 79 = .ok (.iconst 1, 1) := by decide +kernel
theorem dC2_1_80 : decode prog_17_method_3_code 80 = .ok (.isub, 1) := by decide +kernel
theorem dC2_1_81 : decode prog_17_method_3_code 81 = .ok (.daload, 1) := by decide +kernel
theorem dC2_1_82 : decode prog_17_method_3_code 82 = .ok (.aload_n 0, 1) := by decide +kernel
theorem dC2_1_83 : decode prog_17_method_3_code 83 = .ok (.getfield 13, 3) := by decide +kernel
theorem dC2_1_86 : decode prog_17_method_3_code 86 = .ok (.iload 6, 2) := by decide +kernel
theorem dC2_1_88 : decode prog_17_method_3_code 88 = .ok (.daload, 1) := by decide +kernel
theorem dC2_1_89 : decode prog_17_method_3_code 89 = .ok (.aload_n 0, 1) := by decide +kernel
theorem dC2_1_90 : decode prog_17_method_3_code 90 = .ok (.getfield 13, 3) := by decide +kernel
theorem dC2_1_93 : decode prog_17_method_3_code 93 = .ok (.iload 6, 2) := by decide +kernel
theorem dC2_1_95 : decode prog_17_method_3_code 95 = .ok (.iconst 1, 1) := by decide +kernel
theorem dC2_1_96 : decode prog_17_method_3_code 96 = .ok (.isub, 1) := by decide +kernel
theorem dC2_1_97 : decode prog_17_method_3_code 97 = .ok (.daload, 1) := by decide +kernel
theorem dC2_1_98 : decode prog_17_method_3_code 98 = .ok (.dsub, 1) := by decide +kernel
theorem dC2_1_99 : decode prog_17_method_3_code 99 = .ok (.dload_n 1, 1) := by decide +kernel
theorem dC2_1_100 : decode prog_17_method_3_code 100 = .ok (.aload_n 0, 1) := by decide +kernel
theorem dC2_1_101 : decode prog_17_method_3_code 101 = .ok (.getfield 7, 3) := by decide +kernel
theorem dC2_1_104 : decode prog_17_method_3_code 104 = .ok (.iload 6, 2) := by decide +kernel
theorem dC2_1_106 : decode prog_17_method_3_code 106 = .ok (.iconst 1, 1) := by decide +kernel
theorem dC2_1_107 : decode prog_17_method_3_code 107 = .ok (.isub, 1) := by decide +kernel
theorem dC2_1_108 : decode prog_17_method_3_code 108 = .ok (.daload, 1) := by decide +kernel
theorem dC2_1_109 : decode prog_17_method_3_code 109 = .ok (.dsub, 1) := by decide +kernel
theorem dC2_1_110 : decode prog_17_method_3_code 110 = .ok (.dmul, 1) := by decide +kernel
theorem dC2_1_111 : decode prog_17_method_3_code 111 = .ok (.aload_n 0, 1) := by decide +kernel
theorem dC2_1_112 : decode prog_17_method_3_code 112 = .ok (.getfield 7, 3) := by decide +kernel
theorem dC2_1_115 : decode prog_17_method_3_code 115 = .ok (.iload 6, 2) := by decide +kernel
theorem dC2_1_117 : decode prog_17_method_3_code 117 = .ok (.daload, 1) := by decide +kernel
theorem dC2_1_118 : decode prog_17_method_3_code 118 = .ok (.aload_n 0, 1) := by decide +kernel
theorem dC2_1_119 : decode prog_17_method_3_code 119 = .ok (.getfield 7, 3) := by decide +kernel
theorem dC2_1_122 : decode prog_17_method_3_code 122 = .ok (.iload 6, 2) := by decide +kernel
theorem dC2_1_124 : decode prog_17_method_3_code 124 = .ok (.iconst 1, 1) := by decide +kernel
theorem dC2_1_125 : decode prog_17_method_3_code 125 = .ok (.isub, 1) := by decide +kernel
theorem dC2_1_126 : decode prog_17_method_3_code 126 = .ok (.daload, 1) := by decide +kernel
theorem dC2_1_127 : decode prog_17_method_3_code 127 = .ok (.dsub, 1) := by decide +kernel
theorem dC2_1_128 : decode prog_17_method_3_code 128 = .ok (.ddiv, 1) := by decide +kernel
theorem dC2_1_129 : decode prog_17_method_3_code 129 = .ok (.dadd, 1) := by decide +kernel
theorem dC2_1_130 : decode prog_17_method_3_code 130 = .ok (.dstore 4, 2) := by decide +kernel
theorem dC2_1_132 : decode prog_17_method_3_code 132 = .ok (.dload 4, 2) := by decide +kernel
theorem dC2_1_134 : decode prog_17_method_3_code 134 = .ok (.dreturn, 1) := by decide +kernel
theorem ef_C2_1 (m : MethodId) (x0 : Addr) (x1 : UInt64) : entryFrame m #[(.ref x0), (.double x1)] 7 = mkF m 0 #[.val (.ref x0), .val (.double x1), .second, .unset, .unset, .unset, .unset] [] := by first | (simp [entryFrame, mkF, argsToLocals, Value.category]; done) | rfl
def QC2_1 (Z : State) (a1 xa ya : Addr) (kx ky : ClassId) (x : UInt64) (X : Int) (x0 y0 x1 y1 : UInt64) (PX0 PY0 PX1 PY1 : Int) (P T : Int) (h0 : Heap) (n0 : Nat) (v : Option Value) (h : Heap) (L : List Loc) : Prop := (∃ w : UInt64, v = some (.double w) ∧ own_E (PY0 + T) w) ∧ Fr n0 L ∧ h = h0
set_option maxRecDepth 65536 in
set_option maxHeartbeats 40000000 in
theorem rmC2_1 (l : Launch) (Z : State) (a0 : Array Value) (hw : ∀ d ∈ tables_1, d.before a0 Z = true) (ws : List Jvm.Cond) (a1 xa ya : Addr) (kx ky : ClassId) (x : UInt64) (X : Int) (x0 y0 x1 y1 : UInt64) (PX0 PY0 PX1 PY1 : Int) (P T : Int) (h0 : Heap) (n0 : Nat) (Z0 : n0 ≤ h0.size) (hxx : own_E X x) (hx0 : own_E PX0 x0) (hy0 : own_E PY0 y0) (hx1 : own_E PX1 x1) (hy1 : own_E PY1 y1) (F1 : Fld Z h0 a1 "com/example/options_into_arguments/optionsintoarguments/quality/Curve" "xs" "[D" (.ref xa)) (F2 : Fld Z h0 a1 "com/example/options_into_arguments/optionsintoarguments/quality/Curve" "ys" "[D" (.ref ya)) (V1 : Arv Z h0 xa kx .double (2 : Int32) [(.double x0), (.double x1)] (.double 0)) (V2 : Arv Z h0 ya ky .double (2 : Int32) [(.double y0), (.double y1)] (.double 0)) (hB : PX0 < X) (hB2 : X < PX1) (hI : X ≤ PX1) (hP : (PY1 - PY0) * (X - PX0) = 8 * P) (hT : 8 * P = T * (PX1 - PX0)) (hne : PX1 - PX0 ≠ 0) (b1 : (PY1 - PY0).natAbs < 2 ^ 53) (b2 : (X - PX0).natAbs < 2 ^ 53) (b3 : P.natAbs < 2 ^ 53) (b4 : (PX1 - PX0).natAbs < 2 ^ 53) (b5 : T.natAbs < 2 ^ 53) (b6 : (PY0 + T).natAbs < 2 ^ 53) :
    MetFree l (⟨"com/example/options_into_arguments/optionsintoarguments/quality/Curve", "at", "(D)D"⟩ : MethodName) (head1 (Jvm.Cond.code (⟨"com/example/options_into_arguments/optionsintoarguments/quality/Curve", "at", "(D)D"⟩ : MethodName) prog_17_method_3_code 7 (some .double) :: ws) ({ frames := 0, cells := 0, slots := 0, locals := 0 } : Room)) (fun a U => a = #[(.ref a1), (.double x)] ∧ Z.Warmed39 U.vm ∧ U.heap = h0) (fun _ _ _ _ _ => True) (fun _ U o U' => ∃ v L, o = .returned v ∧ QC2_1 Z a1 xa ya kx ky x X x0 y0 x1 y1 PX0 PY0 PX1 PY1 P T h0 n0 v U'.heap L ∧ FrameEnd U o U' L ({ frames := 0, cells := 0, slots := 0, locals := 0 } : Room).cells ({ frames := 0, cells := 0, slots := 0, locals := 0 } : Room).slots) := by
  refine MetFree.of_bodySF (plainFor_of_name pn_com_example_options_into_arguments_optionsintoarguments_quality_Curve) hisR ?_
  intro p e s m args below meth c s₁ Bd hml0 hP hK
  obtain ⟨rfl, hZ, hh⟩ := hP
  have hx := Bd.exec
  have hby := Bd.bytes
  have hlk : meth.locks = false := BodyLoose.notSynchronized Bd
  have hml : c.maxLocals = 7 := hml0
  have hown : s.vm.findClass "com/example/options_into_arguments/optionsintoarguments/quality/Curve" = some m.cls := findClass_of_methodNamed Bd.named
  have hnm := (name_of_methodNamed Bd.named Bd.method).1
  have X0 : Stand p l e ({ frames := 0, cells := 0, slots := 0, locals := 0 } : Room) s m #[(.ref a1), (.double x)] below meth c s₁ [] 0 0 := Stand.of_body Bd
  have e0 : s₁.heap = h0 := by rw [← hh, Bd.state]; rfl
  have N0 := Fr.nil n0
  show own_G p.tables e below s (QC2_1 Z a1 xa ya kx ky x X x0 y0 x1 y1 PX0 PY0 PX1 PY1 P T h0 n0) ({ frames := 0, cells := 0, slots := 0, locals := 0 } : Room).cells ({ frames := 0, cells := 0, slots := 0, locals := 0 } : Room).slots (s₁.setTop (entryFrame m #[(.ref a1), (.double x)] 7))
  refine own_go (fun t k => castTop (ef_C2_1 m a1 x) k) ?_
  show own_G p.tables e below s _ _ _ (s₁.setTop (mkF m 0 #[.val (.ref a1), .val (.double x), .second, .unset, .unset, .unset, .unset] []))
  refine own_go (fun t k => XS.aloadN X0.here hx rfl (hb hby dC2_1_0) rfl rfl k) ?_
  show own_G p.tables e below s _ _ _ (s₁.setTop (mkF m 1 #[.val (.ref a1), .val (.double x), .second, .unset, .unset, .unset, .unset] [(.ref a1)]))
  obtain ⟨T293, X293, e293, st293⟩ := getF X0 hx hZ hown (host := "") (Or.inl (hw _ (List.mem_of_getElem? (i := 16) rfl))) Via.refl e0 F1 (g := (mkF m 1 #[.val (.ref a1), .val (.double x), .second, .unset, .unset, .unset, .unset] [(.ref a1)])) rfl rfl (hb hby dC2_1_1)
  refine own_go st293 ?_
  show own_G p.tables e below s _ _ _ (T293.setTop (mkF m 4 #[.val (.ref a1), .val (.double x), .second, .unset, .unset, .unset, .unset] [(.ref xa)]))
  obtain ⟨cl294, Ar294, q294, S294, NN294, HH294, GG294⟩ := id V1
  have hlen294 := len_of S294 NN294
  refine own_go (A := T293.setTop (mkF m 5 #[.val (.ref a1), .val (.double x), .second, .unset, .unset, .unset, .unset] [(.int (2 : Int32))])) (fun t k => X293.arraylength hx (by rw [e293]; exact Ar294.1) (State.isArrayOf_alike hZ.alike Ar294.2.1) (g := (mkF m 4 #[.val (.ref a1), .val (.double x), .second, .unset, .unset, .unset, .unset] [(.ref xa)])) rfl rfl (hb hby dC2_1_4) _ (by rw [hlen294]; exact k)) ?_
  show own_G p.tables e below s _ _ _ (T293.setTop (mkF m 5 #[.val (.ref a1), .val (.double x), .second, .unset, .unset, .unset, .unset] [(.int (2 : Int32))]))
  refine own_go (fun t k => XS.iconst X293.here hx rfl (hb hby dC2_1_5) k) ?_
  show own_G p.tables e below s _ _ _ (T293.setTop (mkF m 6 #[.val (.ref a1), .val (.double x), .second, .unset, .unset, .unset, .unset] [(.int (1 : Int32)), (.int (2 : Int32))]))
  refine own_go (fun t k => XS.isub X293.here hx rfl (hb hby dC2_1_6) rfl k) ?_
  show own_G p.tables e below s _ _ _ (T293.setTop (mkF m 7 #[.val (.ref a1), .val (.double x), .second, .unset, .unset, .unset, .unset] [(.int (1 : Int32))]))
  refine own_go (fun t k => XS.istoreN X293.here hx rfl (hb hby dC2_1_7) rfl (l' := #[.val (.ref a1), .val (.double x), .second, .val (.int (1 : Int32)), .unset, .unset, .unset]) rfl k) ?_
  show own_G p.tables e below s _ _ _ (T293.setTop (mkF m 8 #[.val (.ref a1), .val (.double x), .second, .val (.int (1 : Int32)), .unset, .unset, .unset] []))
  refine own_go (fun t k => XS.dloadN X293.here hx rfl (hb hby dC2_1_8) rfl k) ?_
  show own_G p.tables e below s _ _ _ (T293.setTop (mkF m 9 #[.val (.ref a1), .val (.double x), .second, .val (.int (1 : Int32)), .unset, .unset, .unset] [(.double x)]))
  refine own_go (fun t k => XS.aloadN X293.here hx rfl (hb hby dC2_1_9) rfl rfl k) ?_
  show own_G p.tables e below s _ _ _ (T293.setTop (mkF m 10 #[.val (.ref a1), .val (.double x), .second, .val (.int (1 : Int32)), .unset, .unset, .unset] [(.ref a1), (.double x)]))
  obtain ⟨T295, X295, e295, st295⟩ := getF X293 hx hZ hown (host := "") (Or.inl (hw _ (List.mem_of_getElem? (i := 16) rfl))) Via.refl e293 F1 (g := (mkF m 10 #[.val (.ref a1), .val (.double x), .second, .val (.int (1 : Int32)), .unset, .unset, .unset] [(.ref a1), (.double x)])) rfl rfl (hb hby dC2_1_10)
  refine own_go st295 ?_
  show own_G p.tables e below s _ _ _ (T295.setTop (mkF m 13 #[.val (.ref a1), .val (.double x), .second, .val (.int (1 : Int32)), .unset, .unset, .unset] [(.ref xa), (.double x)]))
  refine own_go (fun t k => XS.iconst X295.here hx rfl (hb hby dC2_1_13) k) ?_
  show own_G p.tables e below s _ _ _ (T295.setTop (mkF m 14 #[.val (.ref a1), .val (.double x), .second, .val (.int (1 : Int32)), .unset, .unset, .unset] [(.int (0 : Int32)), (.ref xa), (.double x)]))
  obtain ⟨cl296, Ar296, q296, S296, NN296, HH296, GG296⟩ := id V1
  have hin296 : ¬ ((0 : Int32) < 0 ∨ cl296.slots.size ≤ ((0 : Int32)).toNatClampNeg) := inb_of S296 ⟨by decide, by decide⟩
  have hat296 : cl296.slots[((0 : Int32)).toNatClampNeg]? = some (.double x0) := Has.at HH296 hin296 rfl
  refine own_go (fun t k => X295.daload hx (j := (0 : Int32)) (v := (.double x0)) (by rw [e295]; exact Ar296.1) (State.isArrayOf_alike hZ.alike Ar296.2.1) Ar296.2.2 hin296 hat296 (g := (mkF m 14 #[.val (.ref a1), .val (.double x), .second, .val (.int (1 : Int32)), .unset, .unset, .unset] [(.int (0 : Int32)), (.ref xa), (.double x)])) rfl rfl (hb hby dC2_1_14) _ k) ?_
  show own_G p.tables e below s _ _ _ (T295.setTop (mkF m 15 #[.val (.ref a1), .val (.double x), .second, .val (.int (1 : Int32)), .unset, .unset, .unset] [(.double x0), (.double x)]))
  refine own_go (fun t k => XS.dcmpS X295.here hx rfl (hb hby dC2_1_15) rfl (own_cmpv hxx hx0) k) ?_
  show own_G p.tables e below s _ _ _ (T295.setTop (mkF m 16 #[.val (.ref a1), .val (.double x), .second, .val (.int (1 : Int32)), .unset, .unset, .unset] [(.int (own_c (X) (PX0)))]))
  refine own_go (fun t k => XS.ifYes X295.here hx rfl (pc0 := 16) (pc' := 30) rfl (hb hby dC2_1_16) rfl (Jvm.Free.XT.i0_gt_t (own_c_gt hB)) (by decide) (by decide) k) ?_
  show own_G p.tables e below s _ _ _ (T295.setTop (mkF m 30 #[.val (.ref a1), .val (.double x), .second, .val (.int (1 : Int32)), .unset, .unset, .unset] []))
  refine own_go (fun t k => XS.dloadN X295.here hx rfl (hb hby dC2_1_30) rfl k) ?_
  show own_G p.tables e below s _ _ _ (T295.setTop (mkF m 31 #[.val (.ref a1), .val (.double x), .second, .val (.int (1 : Int32)), .unset, .unset, .unset] [(.double x)]))
  refine own_go (fun t k => XS.aloadN X295.here hx rfl (hb hby dC2_1_31) rfl rfl k) ?_
  show own_G p.tables e below s _ _ _ (T295.setTop (mkF m 32 #[.val (.ref a1), .val (.double x), .second, .val (.int (1 : Int32)), .unset, .unset, .unset] [(.ref a1), (.double x)]))
  obtain ⟨T297, X297, e297, st297⟩ := getF X295 hx hZ hown (host := "") (Or.inl (hw _ (List.mem_of_getElem? (i := 16) rfl))) Via.refl e295 F1 (g := (mkF m 32 #[.val (.ref a1), .val (.double x), .second, .val (.int (1 : Int32)), .unset, .unset, .unset] [(.ref a1), (.double x)])) rfl rfl (hb hby dC2_1_32)
  refine own_go st297 ?_
  show own_G p.tables e below s _ _ _ (T297.setTop (mkF m 35 #[.val (.ref a1), .val (.double x), .second, .val (.int (1 : Int32)), .unset, .unset, .unset] [(.ref xa), (.double x)]))
  refine own_go (fun t k => XS.iloadN X297.here hx rfl (hb hby dC2_1_35) rfl k) ?_
  show own_G p.tables e below s _ _ _ (T297.setTop (mkF m 36 #[.val (.ref a1), .val (.double x), .second, .val (.int (1 : Int32)), .unset, .unset, .unset] [(.int (1 : Int32)), (.ref xa), (.double x)]))
  obtain ⟨cl298, Ar298, q298, S298, NN298, HH298, GG298⟩ := id V1
  have hin298 : ¬ ((1 : Int32) < 0 ∨ cl298.slots.size ≤ ((1 : Int32)).toNatClampNeg) := inb_of S298 ⟨by decide, by decide⟩
  have hat298 : cl298.slots[((1 : Int32)).toNatClampNeg]? = some (.double x1) := Has.at HH298 hin298 rfl
  refine own_go (fun t k => X297.daload hx (j := (1 : Int32)) (v := (.double x1)) (by rw [e297]; exact Ar298.1) (State.isArrayOf_alike hZ.alike Ar298.2.1) Ar298.2.2 hin298 hat298 (g := (mkF m 36 #[.val (.ref a1), .val (.double x), .second, .val (.int (1 : Int32)), .unset, .unset, .unset] [(.int (1 : Int32)), (.ref xa), (.double x)])) rfl rfl (hb hby dC2_1_36) _ k) ?_
  show own_G p.tables e below s _ _ _ (T297.setTop (mkF m 37 #[.val (.ref a1), .val (.double x), .second, .val (.int (1 : Int32)), .unset, .unset, .unset] [(.double x1), (.double x)]))
  refine own_go (fun t k => XS.dcmpS X297.here hx rfl (hb hby dC2_1_37) rfl (own_cmpv hxx hx1) k) ?_
  show own_G p.tables e below s _ _ _ (T297.setTop (mkF m 38 #[.val (.ref a1), .val (.double x), .second, .val (.int (1 : Int32)), .unset, .unset, .unset] [(.int (own_c (X) (PX1)))]))
  refine own_go (fun t k => XS.ifYes X297.here hx rfl (pc0 := 38) (pc' := 52) rfl (hb hby dC2_1_38) rfl (Jvm.Free.XT.i0_lt_t (own_c_lt hB2)) (by decide) (by decide) k) ?_
  show own_G p.tables e below s _ _ _ (T297.setTop (mkF m 52 #[.val (.ref a1), .val (.double x), .second, .val (.int (1 : Int32)), .unset, .unset, .unset] []))
  refine own_go (fun t k => XS.iconst X297.here hx rfl (hb hby dC2_1_52) k) ?_
  show own_G p.tables e below s _ _ _ (T297.setTop (mkF m 53 #[.val (.ref a1), .val (.double x), .second, .val (.int (1 : Int32)), .unset, .unset, .unset] [(.int (1 : Int32))]))
  refine own_go (fun t k => XS.istore X297.here hx rfl (hb hby dC2_1_53) rfl (l' := #[.val (.ref a1), .val (.double x), .second, .val (.int (1 : Int32)), .unset, .unset, .val (.int (1 : Int32))]) rfl k) ?_
  show own_G p.tables e below s _ _ _ (T297.setTop (mkF m 55 #[.val (.ref a1), .val (.double x), .second, .val (.int (1 : Int32)), .unset, .unset, .val (.int (1 : Int32))] []))
  refine own_go (fun t k => XS.aloadN X297.here hx rfl (hb hby dC2_1_55) rfl rfl k) ?_
  show own_G p.tables e below s _ _ _ (T297.setTop (mkF m 56 #[.val (.ref a1), .val (.double x), .second, .val (.int (1 : Int32)), .unset, .unset, .val (.int (1 : Int32))] [(.ref a1)]))
  obtain ⟨T299, X299, e299, st299⟩ := getF X297 hx hZ hown (host := "") (Or.inl (hw _ (List.mem_of_getElem? (i := 16) rfl))) Via.refl e297 F1 (g := (mkF m 56 #[.val (.ref a1), .val (.double x), .second, .val (.int (1 : Int32)), .unset, .unset, .val (.int (1 : Int32))] [(.ref a1)])) rfl rfl (hb hby dC2_1_56)
  refine own_go st299 ?_
  show own_G p.tables e below s _ _ _ (T299.setTop (mkF m 59 #[.val (.ref a1), .val (.double x), .second, .val (.int (1 : Int32)), .unset, .unset, .val (.int (1 : Int32))] [(.ref xa)]))
  refine own_go (fun t k => XS.iload X299.here hx rfl (hb hby dC2_1_59) rfl k) ?_
  show own_G p.tables e below s _ _ _ (T299.setTop (mkF m 61 #[.val (.ref a1), .val (.double x), .second, .val (.int (1 : Int32)), .unset, .unset, .val (.int (1 : Int32))] [(.int (1 : Int32)), (.ref xa)]))
  obtain ⟨cl300, Ar300, q300, S300, NN300, HH300, GG300⟩ := id V1
  have hin300 : ¬ ((1 : Int32) < 0 ∨ cl300.slots.size ≤ ((1 : Int32)).toNatClampNeg) := inb_of S300 ⟨by decide, by decide⟩
  have hat300 : cl300.slots[((1 : Int32)).toNatClampNeg]? = some (.double x1) := Has.at HH300 hin300 rfl
  refine own_go (fun t k => X299.daload hx (j := (1 : Int32)) (v := (.double x1)) (by rw [e299]; exact Ar300.1) (State.isArrayOf_alike hZ.alike Ar300.2.1) Ar300.2.2 hin300 hat300 (g := (mkF m 61 #[.val (.ref a1), .val (.double x), .second, .val (.int (1 : Int32)), .unset, .unset, .val (.int (1 : Int32))] [(.int (1 : Int32)), (.ref xa)])) rfl rfl (hb hby dC2_1_61) _ k) ?_
  show own_G p.tables e below s _ _ _ (T299.setTop (mkF m 62 #[.val (.ref a1), .val (.double x), .second, .val (.int (1 : Int32)), .unset, .unset, .val (.int (1 : Int32))] [(.double x1)]))
  refine own_go (fun t k => XS.dloadN X299.here hx rfl (hb hby dC2_1_62) rfl k) ?_
  show own_G p.tables e below s _ _ _ (T299.setTop (mkF m 63 #[.val (.ref a1), .val (.double x), .second, .val (.int (1 : Int32)), .unset, .unset, .val (.int (1 : Int32))] [(.double x), (.double x1)]))
  refine own_go (fun t k => XS.dcmpS X299.here hx rfl (hb hby dC2_1_63) rfl (own_cmpv hx1 hxx) k) ?_
  show own_G p.tables e below s _ _ _ (T299.setTop (mkF m 64 #[.val (.ref a1), .val (.double x), .second, .val (.int (1 : Int32)), .unset, .unset, .val (.int (1 : Int32))] [(.int (own_c (PX1) (X)))]))
  refine own_go (fun t k => XS.ifYes X299.here hx rfl (pc0 := 64) (pc' := 73) rfl (hb hby dC2_1_64) rfl (Jvm.Free.XT.i0_ge_t (own_c_ge hI)) (by decide) (by decide) k) ?_
  show own_G p.tables e below s _ _ _ (T299.setTop (mkF m 73 #[.val (.ref a1), .val (.double x), .second, .val (.int (1 : Int32)), .unset, .unset, .val (.int (1 : Int32))] []))
  refine own_go (fun t k => XS.aloadN X299.here hx rfl (hb hby dC2_1_73) rfl rfl k) ?_
  show own_G p.tables e below s _ _ _ (T299.setTop (mkF m 74 #[.val (.ref a1), .val (.double x), .second, .val (.int (1 : Int32)), .unset, .unset, .val (.int (1 : Int32))] [(.ref a1)]))
  obtain ⟨T301, X301, e301, st301⟩ := getF X299 hx hZ hown (host := "") (Or.inl (hw _ (List.mem_of_getElem? (i := 18) rfl))) Via.refl e299 F2 (g := (mkF m 74 #[.val (.ref a1), .val (.double x), .second, .val (.int (1 : Int32)), .unset, .unset, .val (.int (1 : Int32))] [(.ref a1)])) rfl rfl (hb hby dC2_1_74)
  refine own_go st301 ?_
  show own_G p.tables e below s _ _ _ (T301.setTop (mkF m 77 #[.val (.ref a1), .val (.double x), .second, .val (.int (1 : Int32)), .unset, .unset, .val (.int (1 : Int32))] [(.ref ya)]))
  refine own_go (fun t k => XS.iload X301.here hx rfl (hb hby dC2_1_77) rfl k) ?_
  show own_G p.tables e below s _ _ _ (T301.setTop (mkF m 79 #[.val (.ref a1), .val (.double x), .second, .val (.int (1 : Int32)), .unset, .unset, .val (.int (1 : Int32))] [(.int (1 : Int32)), (.ref ya)]))
  refine own_go (fun t k => XS.iconst X301.here hx rfl (hb hby dC2_1_79) k) ?_
  show own_G p.tables e below s _ _ _ (T301.setTop (mkF m 80 #[.val (.ref a1), .val (.double x), .second, .val (.int (1 : Int32)), .unset, .unset, .val (.int (1 : Int32))] [(.int (1 : Int32)), (.int (1 : Int32)), (.ref ya)]))
  refine own_go (fun t k => XS.isub X301.here hx rfl (hb hby dC2_1_80) rfl k) ?_
  show own_G p.tables e below s _ _ _ (T301.setTop (mkF m 81 #[.val (.ref a1), .val (.double x), .second, .val (.int (1 : Int32)), .unset, .unset, .val (.int (1 : Int32))] [(.int (0 : Int32)), (.ref ya)]))
  obtain ⟨cl302, Ar302, q302, S302, NN302, HH302, GG302⟩ := id V2
  have hin302 : ¬ ((0 : Int32) < 0 ∨ cl302.slots.size ≤ ((0 : Int32)).toNatClampNeg) := inb_of S302 ⟨by decide, by decide⟩
  have hat302 : cl302.slots[((0 : Int32)).toNatClampNeg]? = some (.double y0) := Has.at HH302 hin302 rfl
  refine own_go (fun t k => X301.daload hx (j := (0 : Int32)) (v := (.double y0)) (by rw [e301]; exact Ar302.1) (State.isArrayOf_alike hZ.alike Ar302.2.1) Ar302.2.2 hin302 hat302 (g := (mkF m 81 #[.val (.ref a1), .val (.double x), .second, .val (.int (1 : Int32)), .unset, .unset, .val (.int (1 : Int32))] [(.int (0 : Int32)), (.ref ya)])) rfl rfl (hb hby dC2_1_81) _ k) ?_
  show own_G p.tables e below s _ _ _ (T301.setTop (mkF m 82 #[.val (.ref a1), .val (.double x), .second, .val (.int (1 : Int32)), .unset, .unset, .val (.int (1 : Int32))] [(.double y0)]))
  refine own_go (fun t k => XS.aloadN X301.here hx rfl (hb hby dC2_1_82) rfl rfl k) ?_
  show own_G p.tables e below s _ _ _ (T301.setTop (mkF m 83 #[.val (.ref a1), .val (.double x), .second, .val (.int (1 : Int32)), .unset, .unset, .val (.int (1 : Int32))] [(.ref a1), (.double y0)]))
  obtain ⟨T303, X303, e303, st303⟩ := getF X301 hx hZ hown (host := "") (Or.inl (hw _ (List.mem_of_getElem? (i := 18) rfl))) Via.refl e301 F2 (g := (mkF m 83 #[.val (.ref a1), .val (.double x), .second, .val (.int (1 : Int32)), .unset, .unset, .val (.int (1 : Int32))] [(.ref a1), (.double y0)])) rfl rfl (hb hby dC2_1_83)
  refine own_go st303 ?_
  show own_G p.tables e below s _ _ _ (T303.setTop (mkF m 86 #[.val (.ref a1), .val (.double x), .second, .val (.int (1 : Int32)), .unset, .unset, .val (.int (1 : Int32))] [(.ref ya), (.double y0)]))
  refine own_go (fun t k => XS.iload X303.here hx rfl (hb hby dC2_1_86) rfl k) ?_
  show own_G p.tables e below s _ _ _ (T303.setTop (mkF m 88 #[.val (.ref a1), .val (.double x), .second, .val (.int (1 : Int32)), .unset, .unset, .val (.int (1 : Int32))] [(.int (1 : Int32)), (.ref ya), (.double y0)]))
  obtain ⟨cl304, Ar304, q304, S304, NN304, HH304, GG304⟩ := id V2
  have hin304 : ¬ ((1 : Int32) < 0 ∨ cl304.slots.size ≤ ((1 : Int32)).toNatClampNeg) := inb_of S304 ⟨by decide, by decide⟩
  have hat304 : cl304.slots[((1 : Int32)).toNatClampNeg]? = some (.double y1) := Has.at HH304 hin304 rfl
  refine own_go (fun t k => X303.daload hx (j := (1 : Int32)) (v := (.double y1)) (by rw [e303]; exact Ar304.1) (State.isArrayOf_alike hZ.alike Ar304.2.1) Ar304.2.2 hin304 hat304 (g := (mkF m 88 #[.val (.ref a1), .val (.double x), .second, .val (.int (1 : Int32)), .unset, .unset, .val (.int (1 : Int32))] [(.int (1 : Int32)), (.ref ya), (.double y0)])) rfl rfl (hb hby dC2_1_88) _ k) ?_
  show own_G p.tables e below s _ _ _ (T303.setTop (mkF m 89 #[.val (.ref a1), .val (.double x), .second, .val (.int (1 : Int32)), .unset, .unset, .val (.int (1 : Int32))] [(.double y1), (.double y0)]))
  refine own_go (fun t k => XS.aloadN X303.here hx rfl (hb hby dC2_1_89) rfl rfl k) ?_
  show own_G p.tables e below s _ _ _ (T303.setTop (mkF m 90 #[.val (.ref a1), .val (.double x), .second, .val (.int (1 : Int32)), .unset, .unset, .val (.int (1 : Int32))] [(.ref a1), (.double y1), (.double y0)]))
  obtain ⟨T305, X305, e305, st305⟩ := getF X303 hx hZ hown (host := "") (Or.inl (hw _ (List.mem_of_getElem? (i := 18) rfl))) Via.refl e303 F2 (g := (mkF m 90 #[.val (.ref a1), .val (.double x), .second, .val (.int (1 : Int32)), .unset, .unset, .val (.int (1 : Int32))] [(.ref a1), (.double y1), (.double y0)])) rfl rfl (hb hby dC2_1_90)
  refine own_go st305 ?_
  show own_G p.tables e below s _ _ _ (T305.setTop (mkF m 93 #[.val (.ref a1), .val (.double x), .second, .val (.int (1 : Int32)), .unset, .unset, .val (.int (1 : Int32))] [(.ref ya), (.double y1), (.double y0)]))
  refine own_go (fun t k => XS.iload X305.here hx rfl (hb hby dC2_1_93) rfl k) ?_
  show own_G p.tables e below s _ _ _ (T305.setTop (mkF m 95 #[.val (.ref a1), .val (.double x), .second, .val (.int (1 : Int32)), .unset, .unset, .val (.int (1 : Int32))] [(.int (1 : Int32)), (.ref ya), (.double y1), (.double y0)]))
  refine own_go (fun t k => XS.iconst X305.here hx rfl (hb hby dC2_1_95) k) ?_
  show own_G p.tables e below s _ _ _ (T305.setTop (mkF m 96 #[.val (.ref a1), .val (.double x), .second, .val (.int (1 : Int32)), .unset, .unset, .val (.int (1 : Int32))] [(.int (1 : Int32)), (.int (1 : Int32)), (.ref ya), (.double y1), (.double y0)]))
  refine own_go (fun t k => XS.isub X305.here hx rfl (hb hby dC2_1_96) rfl k) ?_
  show own_G p.tables e below s _ _ _ (T305.setTop (mkF m 97 #[.val (.ref a1), .val (.double x), .second, .val (.int (1 : Int32)), .unset, .unset, .val (.int (1 : Int32))] [(.int (0 : Int32)), (.ref ya), (.double y1), (.double y0)]))
  obtain ⟨cl306, Ar306, q306, S306, NN306, HH306, GG306⟩ := id V2
  have hin306 : ¬ ((0 : Int32) < 0 ∨ cl306.slots.size ≤ ((0 : Int32)).toNatClampNeg) := inb_of S306 ⟨by decide, by decide⟩
  have hat306 : cl306.slots[((0 : Int32)).toNatClampNeg]? = some (.double y0) := Has.at HH306 hin306 rfl
  refine own_go (fun t k => X305.daload hx (j := (0 : Int32)) (v := (.double y0)) (by rw [e305]; exact Ar306.1) (State.isArrayOf_alike hZ.alike Ar306.2.1) Ar306.2.2 hin306 hat306 (g := (mkF m 97 #[.val (.ref a1), .val (.double x), .second, .val (.int (1 : Int32)), .unset, .unset, .val (.int (1 : Int32))] [(.int (0 : Int32)), (.ref ya), (.double y1), (.double y0)])) rfl rfl (hb hby dC2_1_97) _ k) ?_
  show own_G p.tables e below s _ _ _ (T305.setTop (mkF m 98 #[.val (.ref a1), .val (.double x), .second, .val (.int (1 : Int32)), .unset, .unset, .val (.int (1 : Int32))] [(.double y0), (.double y1), (.double y0)]))
  obtain ⟨d307, hd307⟩ : ∃ z, Jvm.FP.dsub y1 y0 = z := ⟨_, rfl⟩
  have D307 : own_E (PY1 - PY0) d307 := by rw [← hd307]; exact own_sub hy1 hy0 b1
  refine own_go (fun t k => XS.dsubS X305.here hx rfl (hb hby dC2_1_98) rfl (by rw [hd307]; exact own_num D307) hd307 k) ?_
  show own_G p.tables e below s _ _ _ (T305.setTop (mkF m 99 #[.val (.ref a1), .val (.double x), .second, .val (.int (1 : Int32)), .unset, .unset, .val (.int (1 : Int32))] [(.double d307), (.double y0)]))
  refine own_go (fun t k => XS.dloadN X305.here hx rfl (hb hby dC2_1_99) rfl k) ?_
  show own_G p.tables e below s _ _ _ (T305.setTop (mkF m 100 #[.val (.ref a1), .val (.double x), .second, .val (.int (1 : Int32)), .unset, .unset, .val (.int (1 : Int32))] [(.double x), (.double d307), (.double y0)]))
  refine own_go (fun t k => XS.aloadN X305.here hx rfl (hb hby dC2_1_100) rfl rfl k) ?_
  show own_G p.tables e below s _ _ _ (T305.setTop (mkF m 101 #[.val (.ref a1), .val (.double x), .second, .val (.int (1 : Int32)), .unset, .unset, .val (.int (1 : Int32))] [(.ref a1), (.double x), (.double d307), (.double y0)]))
  obtain ⟨T308, X308, e308, st308⟩ := getF X305 hx hZ hown (host := "") (Or.inl (hw _ (List.mem_of_getElem? (i := 16) rfl))) Via.refl e305 F1 (g := (mkF m 101 #[.val (.ref a1), .val (.double x), .second, .val (.int (1 : Int32)), .unset, .unset, .val (.int (1 : Int32))] [(.ref a1), (.double x), (.double d307), (.double y0)])) rfl rfl (hb hby dC2_1_101)
  refine own_go st308 ?_
  show own_G p.tables e below s _ _ _ (T308.setTop (mkF m 104 #[.val (.ref a1), .val (.double x), .second, .val (.int (1 : Int32)), .unset, .unset, .val (.int (1 : Int32))] [(.ref xa), (.double x), (.double d307), (.double y0)]))
  refine own_go (fun t k => XS.iload X308.here hx rfl (hb hby dC2_1_104) rfl k) ?_
  show own_G p.tables e below s _ _ _ (T308.setTop (mkF m 106 #[.val (.ref a1), .val (.double x), .second, .val (.int (1 : Int32)), .unset, .unset, .val (.int (1 : Int32))] [(.int (1 : Int32)), (.ref xa), (.double x), (.double d307), (.double y0)]))
  refine own_go (fun t k => XS.iconst X308.here hx rfl (hb hby dC2_1_106) k) ?_
  show own_G p.tables e below s _ _ _ (T308.setTop (mkF m 107 #[.val (.ref a1), .val (.double x), .second, .val (.int (1 : Int32)), .unset, .unset, .val (.int (1 : Int32))] [(.int (1 : Int32)), (.int (1 : Int32)), (.ref xa), (.double x), (.double d307), (.double y0)]))
  refine own_go (fun t k => XS.isub X308.here hx rfl (hb hby dC2_1_107) rfl k) ?_
  show own_G p.tables e below s _ _ _ (T308.setTop (mkF m 108 #[.val (.ref a1), .val (.double x), .second, .val (.int (1 : Int32)), .unset, .unset, .val (.int (1 : Int32))] [(.int (0 : Int32)), (.ref xa), (.double x), (.double d307), (.double y0)]))
  obtain ⟨cl309, Ar309, q309, S309, NN309, HH309, GG309⟩ := id V1
  have hin309 : ¬ ((0 : Int32) < 0 ∨ cl309.slots.size ≤ ((0 : Int32)).toNatClampNeg) := inb_of S309 ⟨by decide, by decide⟩
  have hat309 : cl309.slots[((0 : Int32)).toNatClampNeg]? = some (.double x0) := Has.at HH309 hin309 rfl
  refine own_go (fun t k => X308.daload hx (j := (0 : Int32)) (v := (.double x0)) (by rw [e308]; exact Ar309.1) (State.isArrayOf_alike hZ.alike Ar309.2.1) Ar309.2.2 hin309 hat309 (g := (mkF m 108 #[.val (.ref a1), .val (.double x), .second, .val (.int (1 : Int32)), .unset, .unset, .val (.int (1 : Int32))] [(.int (0 : Int32)), (.ref xa), (.double x), (.double d307), (.double y0)])) rfl rfl (hb hby dC2_1_108) _ k) ?_
  show own_G p.tables e below s _ _ _ (T308.setTop (mkF m 109 #[.val (.ref a1), .val (.double x), .second, .val (.int (1 : Int32)), .unset, .unset, .val (.int (1 : Int32))] [(.double x0), (.double x), (.double d307), (.double y0)]))
  obtain ⟨d310, hd310⟩ : ∃ z, Jvm.FP.dsub x x0 = z := ⟨_, rfl⟩
  have D310 : own_E (X - PX0) d310 := by rw [← hd310]; exact own_sub hxx hx0 b2
  refine own_go (fun t k => XS.dsubS X308.here hx rfl (hb hby dC2_1_109) rfl (by rw [hd310]; exact own_num D310) hd310 k) ?_
  show own_G p.tables e below s _ _ _ (T308.setTop (mkF m 110 #[.val (.ref a1), .val (.double x), .second, .val (.int (1 : Int32)), .unset, .unset, .val (.int (1 : Int32))] [(.double d310), (.double d307), (.double y0)]))
  obtain ⟨d311, hd311⟩ : ∃ z, Jvm.FP.dmul d307 d310 = z := ⟨_, rfl⟩
  have D311 : own_E (P) d311 := by rw [← hd311]; exact own_mul D307 D310 hP b3
  refine own_go (fun t k => XS.dmulS X308.here hx rfl (hb hby dC2_1_110) rfl (by rw [hd311]; exact own_num D311) hd311 k) ?_
  show own_G p.tables e below s _ _ _ (T308.setTop (mkF m 111 #[.val (.ref a1), .val (.double x), .second, .val (.int (1 : Int32)), .unset, .unset, .val (.int (1 : Int32))] [(.double d311), (.double y0)]))
  refine own_go (fun t k => XS.aloadN X308.here hx rfl (hb hby dC2_1_111) rfl rfl k) ?_
  show own_G p.tables e below s _ _ _ (T308.setTop (mkF m 112 #[.val (.ref a1), .val (.double x), .second, .val (.int (1 : Int32)), .unset, .unset, .val (.int (1 : Int32))] [(.ref a1), (.double d311), (.double y0)]))
  obtain ⟨T312, X312, e312, st312⟩ := getF X308 hx hZ hown (host := "") (Or.inl (hw _ (List.mem_of_getElem? (i := 16) rfl))) Via.refl e308 F1 (g := (mkF m 112 #[.val (.ref a1), .val (.double x), .second, .val (.int (1 : Int32)), .unset, .unset, .val (.int (1 : Int32))] [(.ref a1), (.double d311), (.double y0)])) rfl rfl (hb hby dC2_1_112)
  refine own_go st312 ?_
  show own_G p.tables e below s _ _ _ (T312.setTop (mkF m 115 #[.val (.ref a1), .val (.double x), .second, .val (.int (1 : Int32)), .unset, .unset, .val (.int (1 : Int32))] [(.ref xa), (.double d311), (.double y0)]))
  refine own_go (fun t k => XS.iload X312.here hx rfl (hb hby dC2_1_115) rfl k) ?_
  show own_G p.tables e below s _ _ _ (T312.setTop (mkF m 117 #[.val (.ref a1), .val (.double x), .second, .val (.int (1 : Int32)), .unset, .unset, .val (.int (1 : Int32))] [(.int (1 : Int32)), (.ref xa), (.double d311), (.double y0)]))
  obtain ⟨cl313, Ar313, q313, S313, NN313, HH313, GG313⟩ := id V1
  have hin313 : ¬ ((1 : Int32) < 0 ∨ cl313.slots.size ≤ ((1 : Int32)).toNatClampNeg) := inb_of S313 ⟨by decide, by decide⟩
  have hat313 : cl313.slots[((1 : Int32)).toNatClampNeg]? = some (.double x1) := Has.at HH313 hin313 rfl
  refine own_go (fun t k => X312.daload hx (j := (1 : Int32)) (v := (.double x1)) (by rw [e312]; exact Ar313.1) (State.isArrayOf_alike hZ.alike Ar313.2.1) Ar313.2.2 hin313 hat313 (g := (mkF m 117 #[.val (.ref a1), .val (.double x), .second, .val (.int (1 : Int32)), .unset, .unset, .val (.int (1 : Int32))] [(.int (1 : Int32)), (.ref xa), (.double d311), (.double y0)])) rfl rfl (hb hby dC2_1_117) _ k) ?_
  show own_G p.tables e below s _ _ _ (T312.setTop (mkF m 118 #[.val (.ref a1), .val (.double x), .second, .val (.int (1 : Int32)), .unset, .unset, .val (.int (1 : Int32))] [(.double x1), (.double d311), (.double y0)]))
  refine own_go (fun t k => XS.aloadN X312.here hx rfl (hb hby dC2_1_118) rfl rfl k) ?_
  show own_G p.tables e below s _ _ _ (T312.setTop (mkF m 119 #[.val (.ref a1), .val (.double x), .second, .val (.int (1 : Int32)), .unset, .unset, .val (.int (1 : Int32))] [(.ref a1), (.double x1), (.double d311), (.double y0)]))
  obtain ⟨T314, X314, e314, st314⟩ := getF X312 hx hZ hown (host := "") (Or.inl (hw _ (List.mem_of_getElem? (i := 16) rfl))) Via.refl e312 F1 (g := (mkF m 119 #[.val (.ref a1), .val (.double x), .second, .val (.int (1 : Int32)), .unset, .unset, .val (.int (1 : Int32))] [(.ref a1), (.double x1), (.double d311), (.double y0)])) rfl rfl (hb hby dC2_1_119)
  refine own_go st314 ?_
  show own_G p.tables e below s _ _ _ (T314.setTop (mkF m 122 #[.val (.ref a1), .val (.double x), .second, .val (.int (1 : Int32)), .unset, .unset, .val (.int (1 : Int32))] [(.ref xa), (.double x1), (.double d311), (.double y0)]))
  refine own_go (fun t k => XS.iload X314.here hx rfl (hb hby dC2_1_122) rfl k) ?_
  show own_G p.tables e below s _ _ _ (T314.setTop (mkF m 124 #[.val (.ref a1), .val (.double x), .second, .val (.int (1 : Int32)), .unset, .unset, .val (.int (1 : Int32))] [(.int (1 : Int32)), (.ref xa), (.double x1), (.double d311), (.double y0)]))
  refine own_go (fun t k => XS.iconst X314.here hx rfl (hb hby dC2_1_124) k) ?_
  show own_G p.tables e below s _ _ _ (T314.setTop (mkF m 125 #[.val (.ref a1), .val (.double x), .second, .val (.int (1 : Int32)), .unset, .unset, .val (.int (1 : Int32))] [(.int (1 : Int32)), (.int (1 : Int32)), (.ref xa), (.double x1), (.double d311), (.double y0)]))
  refine own_go (fun t k => XS.isub X314.here hx rfl (hb hby dC2_1_125) rfl k) ?_
  show own_G p.tables e below s _ _ _ (T314.setTop (mkF m 126 #[.val (.ref a1), .val (.double x), .second, .val (.int (1 : Int32)), .unset, .unset, .val (.int (1 : Int32))] [(.int (0 : Int32)), (.ref xa), (.double x1), (.double d311), (.double y0)]))
  obtain ⟨cl315, Ar315, q315, S315, NN315, HH315, GG315⟩ := id V1
  have hin315 : ¬ ((0 : Int32) < 0 ∨ cl315.slots.size ≤ ((0 : Int32)).toNatClampNeg) := inb_of S315 ⟨by decide, by decide⟩
  have hat315 : cl315.slots[((0 : Int32)).toNatClampNeg]? = some (.double x0) := Has.at HH315 hin315 rfl
  refine own_go (fun t k => X314.daload hx (j := (0 : Int32)) (v := (.double x0)) (by rw [e314]; exact Ar315.1) (State.isArrayOf_alike hZ.alike Ar315.2.1) Ar315.2.2 hin315 hat315 (g := (mkF m 126 #[.val (.ref a1), .val (.double x), .second, .val (.int (1 : Int32)), .unset, .unset, .val (.int (1 : Int32))] [(.int (0 : Int32)), (.ref xa), (.double x1), (.double d311), (.double y0)])) rfl rfl (hb hby dC2_1_126) _ k) ?_
  show own_G p.tables e below s _ _ _ (T314.setTop (mkF m 127 #[.val (.ref a1), .val (.double x), .second, .val (.int (1 : Int32)), .unset, .unset, .val (.int (1 : Int32))] [(.double x0), (.double x1), (.double d311), (.double y0)]))
  obtain ⟨d316, hd316⟩ : ∃ z, Jvm.FP.dsub x1 x0 = z := ⟨_, rfl⟩
  have D316 : own_E (PX1 - PX0) d316 := by rw [← hd316]; exact own_sub hx1 hx0 b4
  refine own_go (fun t k => XS.dsubS X314.here hx rfl (hb hby dC2_1_127) rfl (by rw [hd316]; exact own_num D316) hd316 k) ?_
  show own_G p.tables e below s _ _ _ (T314.setTop (mkF m 128 #[.val (.ref a1), .val (.double x), .second, .val (.int (1 : Int32)), .unset, .unset, .val (.int (1 : Int32))] [(.double d316), (.double d311), (.double y0)]))
  obtain ⟨d317, hd317⟩ : ∃ z, Jvm.FP.ddiv d311 d316 = z := ⟨_, rfl⟩
  have D317 : own_E (T) d317 := by rw [← hd317]; exact own_div D311 D316 hne hT b5
  refine own_go (fun t k => XS.ddivS X314.here hx rfl (hb hby dC2_1_128) rfl (by rw [hd317]; exact own_num D317) hd317 k) ?_
  show own_G p.tables e below s _ _ _ (T314.setTop (mkF m 129 #[.val (.ref a1), .val (.double x), .second, .val (.int (1 : Int32)), .unset, .unset, .val (.int (1 : Int32))] [(.double d317), (.double y0)]))
  obtain ⟨d318, hd318⟩ : ∃ z, Jvm.FP.dadd y0 d317 = z := ⟨_, rfl⟩
  have D318 : own_E (PY0 + T) d318 := by rw [← hd318]; exact own_add hy0 D317 b6
  refine own_go (fun t k => XS.daddS X314.here hx rfl (hb hby dC2_1_129) rfl (by rw [hd318]; exact own_num D318) hd318 k) ?_
  show own_G p.tables e below s _ _ _ (T314.setTop (mkF m 130 #[.val (.ref a1), .val (.double x), .second, .val (.int (1 : Int32)), .unset, .unset, .val (.int (1 : Int32))] [(.double d318)]))
  refine own_go (fun t k => XS.dstore X314.here hx rfl (hb hby dC2_1_130) rfl (l' := #[.val (.ref a1), .val (.double x), .second, .val (.int (1 : Int32)), .val (.double d318), .second, .val (.int (1 : Int32))]) rfl k) ?_
  show own_G p.tables e below s _ _ _ (T314.setTop (mkF m 132 #[.val (.ref a1), .val (.double x), .second, .val (.int (1 : Int32)), .val (.double d318), .second, .val (.int (1 : Int32))] []))
  refine own_go (fun t k => XS.dload X314.here hx rfl (hb hby dC2_1_132) rfl k) ?_
  show own_G p.tables e below s _ _ _ (T314.setTop (mkF m 134 #[.val (.ref a1), .val (.double x), .second, .val (.int (1 : Int32)), .val (.double d318), .second, .val (.int (1 : Int32))] [(.double d318)]))
  exact own_retD X314 hx hlk Bd.returns (hb hby dC2_1_134) (by rw [e314]; exact ⟨⟨_, rfl, D318⟩, N0, rfl⟩) (by decide) (by decide)
theorem dC3_1_0 : decode prog_17_method_3_code 0 = .ok (.aload_n 0, 1) := by decide +kernel
theorem dC3_1_1 : decode prog_17_method_3_code 1 = .ok (.getfield 7, 3) := by decide +kernel
theorem dC3_1_4 : decode prog_17_method_3_code 4 = .ok (.arraylength, 1) := by decide +kernel
theorem dC3_1_5 : decode prog_17_method_3_code 5 = .ok (.iconst 1, 1) := by decide +kernel
theorem dC3_1_6 : decode prog_17_method_3_code 6 = .ok (.isub, 1) := by decide +kernel
theorem dC3_1_7 : decode prog_17_method_3_code 7 = .ok (.istore_n 3, 1) := by decide +kernel
theorem dC3_1_8 : decode prog_17_method_3_code 8 = .ok (.dload_n 1, 1) := by decide +kernel
theorem dC3_1_9 : decode prog_17_method_3_code 9 = .ok (.aload_n 0, 1) := by decide +kernel
theorem dC3_1_10 : decode prog_17_method_3_code 10 = .ok (.getfield 7, 3) := by decide +kernel
theorem dC3_1_13 : decode prog_17_method_3_code 13 = .ok (.iconst 0, 1) := by decide +kernel
theorem dC3_1_14 : decode prog_17_method_3_code 14 = .ok (.daload, 1) := by decide +kernel
theorem dC3_1_15 : decode prog_17_method_3_code 15 = .ok (.dcmp .g, 1) := by decide +kernel
theorem dC3_1_16 : decode prog_17_method_3_code 16 = .ok (.ifCond .gt 14, 3) := by decide +kernel
theorem dC3_1_30 : decode prog_17_method_3_code 30 = .ok (.dload_n 1, 1) := by decide +kernel
theorem dC3_1_31 : decode prog_17_method_3_code 31 = .ok (.aload_n 0, 1) := by decide +kernel
theorem dC3_1_32 : decode prog_17_method_3_code 32 = .ok (.getfield 7, 3) := by decide +kernel
theorem dC3_1_35 : decode prog_17_method_3_code 35 = .ok (.iload_n 3, 1) := by decide +kernel
theorem dC3_1_36 : decode prog_17_method_3_code 36 = .ok (.daload, 1) := by decide +kernel
theorem dC3_1_37 : decode prog_17_method_3_code 37 = .ok (.dcmp .l, 1) := by decide +kernel
theorem dC3_1_38 : decode prog_17_method_3_code 38 = .ok (.ifCond .lt 14, 3) := by decide +kernel
theorem dC3_1_52 : decode prog_17_method_3_code 52 = .ok (.iconst 1, 1) := by decide +kernel
theorem dC3_1_53 : decode prog_17_method_3_code 53 = .ok (.istore 6, 2) := by decide +kernel
theorem dC3_1_55 : decode prog_17_method_3_code 55 = .ok (.aload_n 0, 1) := by decide +kernel
theorem dC3_1_56 : decode prog_17_method_3_code 56 = .ok (.getfield 7, 3) := by decide +kernel
theorem dC3_1_59 : decode prog_17_method_3_code 59 = .ok (.iload 6, 2) := by decide +kernel
theorem dC3_1_61 : decode prog_17_method_3_code 61 = .ok (.daload, 1) := by decide +kernel
theorem dC3_1_62 : decode prog_17_method_3_code 62 = .ok (.dload_n 1, 1) := by decide +kernel
theorem dC3_1_63 : decode prog_17_method_3_code 63 = .ok (.dcmp .g, 1) := by decide +kernel
theorem dC3_1_64 : decode prog_17_method_3_code 64 = .ok (.ifCond .ge 9, 3) := by decide +kernel
theorem dC3_1_73 : decode prog_17_method_3_code 73 = .ok (.aload_n 0, 1) := by decide +kernel
theorem dC3_1_74 : decode prog_17_method_3_code 74 = .ok (.getfield 13, 3) := by decide +kernel
theorem dC3_1_77 : decode prog_17_method_3_code 77 = .ok (.iload 6, 2) := by decide +kernel
theorem dC3_1_79 : decode prog_17_method_3_code 79 = .ok (.iconst 1, 1) := by decide +kernel
theorem dC3_1_80 : decode prog_17_method_3_code 80 = .ok (.isub, 1) := by decide +kernel
theorem dC3_1_81 : decode prog_17_method_3_code 81 = .ok (.daload, 1) := by decide +kernel
theorem dC3_1_82 : decode prog_17_method_3_code 82 = .ok (.aload_n 0, 1) := by decide +kernel
theorem dC3_1_83 : decode prog_17_method_3_code 83 = .ok (.getfield 13, 3) := by decide +kernel
theorem dC3_1_86 : decode prog_17_method_3_code 86 = .ok (.iload 6, 2) := by decide +kernel
theorem dC3_1_88 : decode prog_17_method_3_code 88 = .ok (.daload, 1) := by decide +kernel
theorem dC3_1_89 : decode prog_17_method_3_code 89 = .ok (.aload_n 0, 1) := by decide +kernel
theorem dC3_1_90 : decode prog_17_method_3_code 90 = .ok (.getfield 13, 3) := by decide +kernel
theorem dC3_1_93 : decode prog_17_method_3_code 93 = .ok (.iload 6, 2) := by decide +kernel
theorem dC3_1_95 : decode prog_17_method_3_code 95 = .ok (.iconst 1, 1) := by decide +kernel
theorem dC3_1_96 : decode prog_17_method_3_code 96 = .ok (.isub, 1) := by decide +kernel
theorem dC3_1_97 : decode prog_17_method_3_code 97 = .ok (.daload, 1) := by decide +kernel
theorem dC3_1_98 : decode prog_17_method_3_code 98 = .ok (.dsub, 1) := by decide +kernel
theorem dC3_1_99 : decode prog_17_method_3_code 99 = .ok (.dload_n 1, 1) := by decide +kernel
theorem dC3_1_100 : decode prog_17_method_3_code 100 = .ok (.aload_n 0, 1) := by decide +kernel
theorem dC3_1_101 : decode prog_17_method_3_code 101 = .ok (.getfield 7, 3) := by decide +kernel
theorem dC3_1_104 : decode prog_17_method_3_code 104 = .ok (.iload 6, 2) := by decide +kernel
theorem dC3_1_106 : decode prog_17_method_3_code 106 = .ok (.iconst 1, 1) := by decide +kernel
theorem dC3_1_107 : decode prog_17_method_3_code 107 = .ok (.isub, 1) := by decide +kernel
theorem dC3_1_108 : decode prog_17_method_3_code 108 = .ok (.daload, 1) := by decide +kernel
theorem dC3_1_109 : decode prog_17_method_3_code 109 = .ok (.dsub, 1) := by decide +kernel
theorem dC3_1_110 : decode prog_17_method_3_code 110 = .ok (.dmul, 1) := by decide +kernel
theorem dC3_1_111 : decode prog_17_method_3_code 111 = .ok (.aload_n 0, 1) := by decide +kernel
theorem dC3_1_112 : decode prog_17_method_3_code 112 = .ok (.getfield 7, 3) := by decide +kernel
theorem dC3_1_115 : decode prog_17_method_3_code 115 = .ok (.iload 6, 2) := by decide +kernel
theorem dC3_1_117 : decode prog_17_method_3_code 117 = .ok (.daload, 1) := by decide +kernel
theorem dC3_1_118 : decode prog_17_method_3_code 118 = .ok (.aload_n 0, 1) := by decide +kernel
theorem dC3_1_119 : decode prog_17_method_3_code 119 = .ok (.getfield 7, 3) := by decide +kernel
theorem dC3_1_122 : decode prog_17_method_3_code 122 = .ok (.iload 6, 2) := by decide +kernel
theorem dC3_1_124 : decode prog_17_method_3_code 124 = .ok (.iconst 1, 1) := by decide +kernel
theorem dC3_1_125 : decode prog_17_method_3_code 125 = .ok (.isub, 1) := by decide +kernel
theorem dC3_1_126 : decode prog_17_method_3_code 126 = .ok (.daload, 1) := by decide +kernel
theorem dC3_1_127 : decode prog_17_method_3_code 127 = .ok (.dsub, 1) := by decide +kernel
theorem dC3_1_128 : decode prog_17_method_3_code 128 = .ok (.ddiv, 1) := by decide +kernel
theorem dC3_1_129 : decode prog_17_method_3_code 129 = .ok (.dadd, 1) := by decide +kernel
theorem dC3_1_130 : decode prog_17_method_3_code 130 = .ok (.dstore 4, 2) := by decide +kernel
theorem dC3_1_132 : decode prog_17_method_3_code 132 = .ok (.dload 4, 2) := by decide +kernel
theorem dC3_1_134 : decode prog_17_method_3_code 134 = .ok (.dreturn, 1) := by decide +kernel
theorem ef_C3_1 (m : MethodId) (x0 : Addr) (x1 : UInt64) : entryFrame m #[(.ref x0), (.double x1)] 7 = mkF m 0 #[.val (.ref x0), .val (.double x1), .second, .unset, .unset, .unset, .unset] [] := by first | (simp [entryFrame, mkF, argsToLocals, Value.category]; done) | rfl
def QC3_1 (Z : State) (a1 xa ya : Addr) (kx ky : ClassId) (x : UInt64) (X : Int) (x0 y0 x1 y1 x2 y2 : UInt64) (PX0 PY0 PX1 PY1 PX2 PY2 : Int) (P T : Int) (h0 : Heap) (n0 : Nat) (v : Option Value) (h : Heap) (L : List Loc) : Prop := (∃ w : UInt64, v = some (.double w) ∧ own_E (PY0 + T) w) ∧ Fr n0 L ∧ h = h0
set_option maxRecDepth 65536 in
set_option maxHeartbeats 40000000 in
theorem rmC3_1 (l : Launch) (Z : State) (a0 : Array Value) (hw : ∀ d ∈ tables_1, d.before a0 Z = true) (ws : List Jvm.Cond) (a1 xa ya : Addr) (kx ky : ClassId) (x : UInt64) (X : Int) (x0 y0 x1 y1 x2 y2 : UInt64) (PX0 PY0 PX1 PY1 PX2 PY2 : Int) (P T : Int) (h0 : Heap) (n0 : Nat) (Z0 : n0 ≤ h0.size) (hxx : own_E X x) (hx0 : own_E PX0 x0) (hy0 : own_E PY0 y0) (hx1 : own_E PX1 x1) (hy1 : own_E PY1 y1) (hx2 : own_E PX2 x2) (hy2 : own_E PY2 y2) (F1 : Fld Z h0 a1 "com/example/options_into_arguments/optionsintoarguments/quality/Curve" "xs" "[D" (.ref xa)) (F2 : Fld Z h0 a1 "com/example/options_into_arguments/optionsintoarguments/quality/Curve" "ys" "[D" (.ref ya)) (V1 : Arv Z h0 xa kx .double (3 : Int32) [(.double x0), (.double x1), (.double x2)] (.double 0)) (V2 : Arv Z h0 ya ky .double (3 : Int32) [(.double y0), (.double y1), (.double y2)] (.double 0)) (hB : PX0 < X) (hB2 : X < PX2) (hI : X ≤ PX1) (hP : (PY1 - PY0) * (X - PX0) = 8 * P) (hT : 8 * P = T * (PX1 - PX0)) (hne : PX1 - PX0 ≠ 0) (b1 : (PY1 - PY0).natAbs < 2 ^ 53) (b2 : (X - PX0).natAbs < 2 ^ 53) (b3 : P.natAbs < 2 ^ 53) (b4 : (PX1 - PX0).natAbs < 2 ^ 53) (b5 : T.natAbs < 2 ^ 53) (b6 : (PY0 + T).natAbs < 2 ^ 53) :
    MetFree l (⟨"com/example/options_into_arguments/optionsintoarguments/quality/Curve", "at", "(D)D"⟩ : MethodName) (head1 (Jvm.Cond.code (⟨"com/example/options_into_arguments/optionsintoarguments/quality/Curve", "at", "(D)D"⟩ : MethodName) prog_17_method_3_code 7 (some .double) :: ws) ({ frames := 0, cells := 0, slots := 0, locals := 0 } : Room)) (fun a U => a = #[(.ref a1), (.double x)] ∧ Z.Warmed39 U.vm ∧ U.heap = h0) (fun _ _ _ _ _ => True) (fun _ U o U' => ∃ v L, o = .returned v ∧ QC3_1 Z a1 xa ya kx ky x X x0 y0 x1 y1 x2 y2 PX0 PY0 PX1 PY1 PX2 PY2 P T h0 n0 v U'.heap L ∧ FrameEnd U o U' L ({ frames := 0, cells := 0, slots := 0, locals := 0 } : Room).cells ({ frames := 0, cells := 0, slots := 0, locals := 0 } : Room).slots) := by
  refine MetFree.of_bodySF (plainFor_of_name pn_com_example_options_into_arguments_optionsintoarguments_quality_Curve) hisR ?_
  intro p e s m args below meth c s₁ Bd hml0 hP hK
  obtain ⟨rfl, hZ, hh⟩ := hP
  have hx := Bd.exec
  have hby := Bd.bytes
  have hlk : meth.locks = false := BodyLoose.notSynchronized Bd
  have hml : c.maxLocals = 7 := hml0
  have hown : s.vm.findClass "com/example/options_into_arguments/optionsintoarguments/quality/Curve" = some m.cls := findClass_of_methodNamed Bd.named
  have hnm := (name_of_methodNamed Bd.named Bd.method).1
  have X0 : Stand p l e ({ frames := 0, cells := 0, slots := 0, locals := 0 } : Room) s m #[(.ref a1), (.double x)] below meth c s₁ [] 0 0 := Stand.of_body Bd
  have e0 : s₁.heap = h0 := by rw [← hh, Bd.state]; rfl
  have N0 := Fr.nil n0
  show own_G p.tables e below s (QC3_1 Z a1 xa ya kx ky x X x0 y0 x1 y1 x2 y2 PX0 PY0 PX1 PY1 PX2 PY2 P T h0 n0) ({ frames := 0, cells := 0, slots := 0, locals := 0 } : Room).cells ({ frames := 0, cells := 0, slots := 0, locals := 0 } : Room).slots (s₁.setTop (entryFrame m #[(.ref a1), (.double x)] 7))
  refine own_go (fun t k => castTop (ef_C3_1 m a1 x) k) ?_
  show own_G p.tables e below s _ _ _ (s₁.setTop (mkF m 0 #[.val (.ref a1), .val (.double x), .second, .unset, .unset, .unset, .unset] []))
  refine own_go (fun t k => XS.aloadN X0.here hx rfl (hb hby dC3_1_0) rfl rfl k) ?_
  show own_G p.tables e below s _ _ _ (s₁.setTop (mkF m 1 #[.val (.ref a1), .val (.double x), .second, .unset, .unset, .unset, .unset] [(.ref a1)]))
  obtain ⟨T319, X319, e319, st319⟩ := getF X0 hx hZ hown (host := "") (Or.inl (hw _ (List.mem_of_getElem? (i := 16) rfl))) Via.refl e0 F1 (g := (mkF m 1 #[.val (.ref a1), .val (.double x), .second, .unset, .unset, .unset, .unset] [(.ref a1)])) rfl rfl (hb hby dC3_1_1)
  refine own_go st319 ?_
  show own_G p.tables e below s _ _ _ (T319.setTop (mkF m 4 #[.val (.ref a1), .val (.double x), .second, .unset, .unset, .unset, .unset] [(.ref xa)]))
  obtain ⟨cl320, Ar320, q320, S320, NN320, HH320, GG320⟩ := id V1
  have hlen320 := len_of S320 NN320
  refine own_go (A := T319.setTop (mkF m 5 #[.val (.ref a1), .val (.double x), .second, .unset, .unset, .unset, .unset] [(.int (3 : Int32))])) (fun t k => X319.arraylength hx (by rw [e319]; exact Ar320.1) (State.isArrayOf_alike hZ.alike Ar320.2.1) (g := (mkF m 4 #[.val (.ref a1), .val (.double x), .second, .unset, .unset, .unset, .unset] [(.ref xa)])) rfl rfl (hb hby dC3_1_4) _ (by rw [hlen320]; exact k)) ?_
  show own_G p.tables e below s _ _ _ (T319.setTop (mkF m 5 #[.val (.ref a1), .val (.double x), .second, .unset, .unset, .unset, .unset] [(.int (3 : Int32))]))
  refine own_go (fun t k => XS.iconst X319.here hx rfl (hb hby dC3_1_5) k) ?_
  show own_G p.tables e below s _ _ _ (T319.setTop (mkF m 6 #[.val (.ref a1), .val (.double x), .second, .unset, .unset, .unset, .unset] [(.int (1 : Int32)), (.int (3 : Int32))]))
  refine own_go (fun t k => XS.isub X319.here hx rfl (hb hby dC3_1_6) rfl k) ?_
  show own_G p.tables e below s _ _ _ (T319.setTop (mkF m 7 #[.val (.ref a1), .val (.double x), .second, .unset, .unset, .unset, .unset] [(.int (2 : Int32))]))
  refine own_go (fun t k => XS.istoreN X319.here hx rfl (hb hby dC3_1_7) rfl (l' := #[.val (.ref a1), .val (.double x), .second, .val (.int (2 : Int32)), .unset, .unset, .unset]) rfl k) ?_
  show own_G p.tables e below s _ _ _ (T319.setTop (mkF m 8 #[.val (.ref a1), .val (.double x), .second, .val (.int (2 : Int32)), .unset, .unset, .unset] []))
  refine own_go (fun t k => XS.dloadN X319.here hx rfl (hb hby dC3_1_8) rfl k) ?_
  show own_G p.tables e below s _ _ _ (T319.setTop (mkF m 9 #[.val (.ref a1), .val (.double x), .second, .val (.int (2 : Int32)), .unset, .unset, .unset] [(.double x)]))
  refine own_go (fun t k => XS.aloadN X319.here hx rfl (hb hby dC3_1_9) rfl rfl k) ?_
  show own_G p.tables e below s _ _ _ (T319.setTop (mkF m 10 #[.val (.ref a1), .val (.double x), .second, .val (.int (2 : Int32)), .unset, .unset, .unset] [(.ref a1), (.double x)]))
  obtain ⟨T321, X321, e321, st321⟩ := getF X319 hx hZ hown (host := "") (Or.inl (hw _ (List.mem_of_getElem? (i := 16) rfl))) Via.refl e319 F1 (g := (mkF m 10 #[.val (.ref a1), .val (.double x), .second, .val (.int (2 : Int32)), .unset, .unset, .unset] [(.ref a1), (.double x)])) rfl rfl (hb hby dC3_1_10)
  refine own_go st321 ?_
  show own_G p.tables e below s _ _ _ (T321.setTop (mkF m 13 #[.val (.ref a1), .val (.double x), .second, .val (.int (2 : Int32)), .unset, .unset, .unset] [(.ref xa), (.double x)]))
  refine own_go (fun t k => XS.iconst X321.here hx rfl (hb hby dC3_1_13) k) ?_
  show own_G p.tables e below s _ _ _ (T321.setTop (mkF m 14 #[.val (.ref a1), .val (.double x), .second, .val (.int (2 : Int32)), .unset, .unset, .unset] [(.int (0 : Int32)), (.ref xa), (.double x)]))
  obtain ⟨cl322, Ar322, q322, S322, NN322, HH322, GG322⟩ := id V1
  have hin322 : ¬ ((0 : Int32) < 0 ∨ cl322.slots.size ≤ ((0 : Int32)).toNatClampNeg) := inb_of S322 ⟨by decide, by decide⟩
  have hat322 : cl322.slots[((0 : Int32)).toNatClampNeg]? = some (.double x0) := Has.at HH322 hin322 rfl
  refine own_go (fun t k => X321.daload hx (j := (0 : Int32)) (v := (.double x0)) (by rw [e321]; exact Ar322.1) (State.isArrayOf_alike hZ.alike Ar322.2.1) Ar322.2.2 hin322 hat322 (g := (mkF m 14 #[.val (.ref a1), .val (.double x), .second, .val (.int (2 : Int32)), .unset, .unset, .unset] [(.int (0 : Int32)), (.ref xa), (.double x)])) rfl rfl (hb hby dC3_1_14) _ k) ?_
  show own_G p.tables e below s _ _ _ (T321.setTop (mkF m 15 #[.val (.ref a1), .val (.double x), .second, .val (.int (2 : Int32)), .unset, .unset, .unset] [(.double x0), (.double x)]))
  refine own_go (fun t k => XS.dcmpS X321.here hx rfl (hb hby dC3_1_15) rfl (own_cmpv hxx hx0) k) ?_
  show own_G p.tables e below s _ _ _ (T321.setTop (mkF m 16 #[.val (.ref a1), .val (.double x), .second, .val (.int (2 : Int32)), .unset, .unset, .unset] [(.int (own_c (X) (PX0)))]))
  refine own_go (fun t k => XS.ifYes X321.here hx rfl (pc0 := 16) (pc' := 30) rfl (hb hby dC3_1_16) rfl (Jvm.Free.XT.i0_gt_t (own_c_gt hB)) (by decide) (by decide) k) ?_
  show own_G p.tables e below s _ _ _ (T321.setTop (mkF m 30 #[.val (.ref a1), .val (.double x), .second, .val (.int (2 : Int32)), .unset, .unset, .unset] []))
  refine own_go (fun t k => XS.dloadN X321.here hx rfl (hb hby dC3_1_30) rfl k) ?_
  show own_G p.tables e below s _ _ _ (T321.setTop (mkF m 31 #[.val (.ref a1), .val (.double x), .second, .val (.int (2 : Int32)), .unset, .unset, .unset] [(.double x)]))
  refine own_go (fun t k => XS.aloadN X321.here hx rfl (hb hby dC3_1_31) rfl rfl k) ?_
  show own_G p.tables e below s _ _ _ (T321.setTop (mkF m 32 #[.val (.ref a1), .val (.double x), .second, .val (.int (2 : Int32)), .unset, .unset, .unset] [(.ref a1), (.double x)]))
  obtain ⟨T323, X323, e323, st323⟩ := getF X321 hx hZ hown (host := "") (Or.inl (hw _ (List.mem_of_getElem? (i := 16) rfl))) Via.refl e321 F1 (g := (mkF m 32 #[.val (.ref a1), .val (.double x), .second, .val (.int (2 : Int32)), .unset, .unset, .unset] [(.ref a1), (.double x)])) rfl rfl (hb hby dC3_1_32)
  refine own_go st323 ?_
  show own_G p.tables e below s _ _ _ (T323.setTop (mkF m 35 #[.val (.ref a1), .val (.double x), .second, .val (.int (2 : Int32)), .unset, .unset, .unset] [(.ref xa), (.double x)]))
  refine own_go (fun t k => XS.iloadN X323.here hx rfl (hb hby dC3_1_35) rfl k) ?_
  show own_G p.tables e below s _ _ _ (T323.setTop (mkF m 36 #[.val (.ref a1), .val (.double x), .second, .val (.int (2 : Int32)), .unset, .unset, .unset] [(.int (2 : Int32)), (.ref xa), (.double x)]))
  obtain ⟨cl324, Ar324, q324, S324, NN324, HH324, GG324⟩ := id V1
  have hin324 : ¬ ((2 : Int32) < 0 ∨ cl324.slots.size ≤ ((2 : Int32)).toNatClampNeg) := inb_of S324 ⟨by decide, by decide⟩
  have hat324 : cl324.slots[((2 : Int32)).toNatClampNeg]? = some (.double x2) := Has.at HH324 hin324 rfl
  refine own_go (fun t k => X323.daload hx (j := (2 : Int32)) (v := (.double x2)) (by rw [e323]; exact Ar324.1) (State.isArrayOf_alike hZ.alike Ar324.2.1) Ar324.2.2 hin324 hat324 (g := (mkF m 36 #[.val (.ref a1), .val (.double x), .second, .val (.int (2 : Int32)), .unset, .unset, .unset] [(.int (2 : Int32)), (.ref xa), (.double x)])) rfl rfl (hb hby dC3_1_36) _ k) ?_
  show own_G p.tables e below s _ _ _ (T323.setTop (mkF m 37 #[.val (.ref a1), .val (.double x), .second, .val (.int (2 : Int32)), .unset, .unset, .unset] [(.double x2), (.double x)]))
  refine own_go (fun t k => XS.dcmpS X323.here hx rfl (hb hby dC3_1_37) rfl (own_cmpv hxx hx2) k) ?_
  show own_G p.tables e below s _ _ _ (T323.setTop (mkF m 38 #[.val (.ref a1), .val (.double x), .second, .val (.int (2 : Int32)), .unset, .unset, .unset] [(.int (own_c (X) (PX2)))]))
  refine own_go (fun t k => XS.ifYes X323.here hx rfl (pc0 := 38) (pc' := 52) rfl (hb hby dC3_1_38) rfl (Jvm.Free.XT.i0_lt_t (own_c_lt hB2)) (by decide) (by decide) k) ?_
  show own_G p.tables e below s _ _ _ (T323.setTop (mkF m 52 #[.val (.ref a1), .val (.double x), .second, .val (.int (2 : Int32)), .unset, .unset, .unset] []))
  refine own_go (fun t k => XS.iconst X323.here hx rfl (hb hby dC3_1_52) k) ?_
  show own_G p.tables e below s _ _ _ (T323.setTop (mkF m 53 #[.val (.ref a1), .val (.double x), .second, .val (.int (2 : Int32)), .unset, .unset, .unset] [(.int (1 : Int32))]))
  refine own_go (fun t k => XS.istore X323.here hx rfl (hb hby dC3_1_53) rfl (l' := #[.val (.ref a1), .val (.double x), .second, .val (.int (2 : Int32)), .unset, .unset, .val (.int (1 : Int32))]) rfl k) ?_
  show own_G p.tables e below s _ _ _ (T323.setTop (mkF m 55 #[.val (.ref a1), .val (.double x), .second, .val (.int (2 : Int32)), .unset, .unset, .val (.int (1 : Int32))] []))
  refine own_go (fun t k => XS.aloadN X323.here hx rfl (hb hby dC3_1_55) rfl rfl k) ?_
  show own_G p.tables e below s _ _ _ (T323.setTop (mkF m 56 #[.val (.ref a1), .val (.double x), .second, .val (.int (2 : Int32)), .unset, .unset, .val (.int (1 : Int32))] [(.ref a1)]))
  obtain ⟨T325, X325, e325, st325⟩ := getF X323 hx hZ hown (host := "") (Or.inl (hw _ (List.mem_of_getElem? (i := 16) rfl))) Via.refl e323 F1 (g := (mkF m 56 #[.val (.ref a1), .val (.double x), .second, .val (.int (2 : Int32)), .unset, .unset, .val (.int (1 : Int32))] [(.ref a1)])) rfl rfl (hb hby dC3_1_56)
  refine own_go st325 ?_
  show own_G p.tables e below s _ _ _ (T325.setTop (mkF m 59 #[.val (.ref a1), .val (.double x), .second, .val (.int (2 : Int32)), .unset, .unset, .val (.int (1 : Int32))] [(.ref xa)]))
  refine own_go (fun t k => XS.iload X325.here hx rfl (hb hby dC3_1_59) rfl k) ?_
  show own_G p.tables e below s _ _ _ (T325.setTop (mkF m 61 #[.val (.ref a1), .val (.double x), .second, .val (.int (2 : Int32)), .unset, .unset, .val (.int (1 : Int32))] [(.int (1 : Int32)), (.ref xa)]))
  obtain ⟨cl326, Ar326, q326, S326, NN326, HH326, GG326⟩ := id V1
  have hin326 : ¬ ((1 : Int32) < 0 ∨ cl326.slots.size ≤ ((1 : Int32)).toNatClampNeg) := inb_of S326 ⟨by decide, by decide⟩
  have hat326 : cl326.slots[((1 : Int32)).toNatClampNeg]? = some (.double x1) := Has.at HH326 hin326 rfl
  refine own_go (fun t k => X325.daload hx (j := (1 : Int32)) (v := (.double x1)) (by rw [e325]; exact Ar326.1) (State.isArrayOf_alike hZ.alike Ar326.2.1) Ar326.2.2 hin326 hat326 (g := (mkF m 61 #[.val (.ref a1), .val (.double x), .second, .val (.int (2 : Int32)), .unset, .unset, .val (.int (1 : Int32))] [(.int (1 : Int32)), (.ref xa)])) rfl rfl (hb hby dC3_1_61) _ k) ?_
  show own_G p.tables e below s _ _ _ (T325.setTop (mkF m 62 #[.val (.ref a1), .val (.double x), .second, .val (.int (2 : Int32)), .unset, .unset, .val (.int (1 : Int32))] [(.double x1)]))
  refine own_go (fun t k => XS.dloadN X325.here hx rfl (hb hby dC3_1_62) rfl k) ?_
  show own_G p.tables e below s _ _ _ (T325.setTop (mkF m 63 #[.val (.ref a1), .val (.double x), .second, .val (.int (2 : Int32)), .unset, .unset, .val (.int (1 : Int32))] [(.double x), (.double x1)]))
  refine own_go (fun t k => XS.dcmpS X325.here hx rfl (hb hby dC3_1_63) rfl (own_cmpv hx1 hxx) k) ?_
  show own_G p.tables e below s _ _ _ (T325.setTop (mkF m 64 #[.val (.ref a1), .val (.double x), .second, .val (.int (2 : Int32)), .unset, .unset, .val (.int (1 : Int32))] [(.int (own_c (PX1) (X)))]))
  refine own_go (fun t k => XS.ifYes X325.here hx rfl (pc0 := 64) (pc' := 73) rfl (hb hby dC3_1_64) rfl (Jvm.Free.XT.i0_ge_t (own_c_ge hI)) (by decide) (by decide) k) ?_
  show own_G p.tables e below s _ _ _ (T325.setTop (mkF m 73 #[.val (.ref a1), .val (.double x), .second, .val (.int (2 : Int32)), .unset, .unset, .val (.int (1 : Int32))] []))
  refine own_go (fun t k => XS.aloadN X325.here hx rfl (hb hby dC3_1_73) rfl rfl k) ?_
  show own_G p.tables e below s _ _ _ (T325.setTop (mkF m 74 #[.val (.ref a1), .val (.double x), .second, .val (.int (2 : Int32)), .unset, .unset, .val (.int (1 : Int32))] [(.ref a1)]))
  obtain ⟨T327, X327, e327, st327⟩ := getF X325 hx hZ hown (host := "") (Or.inl (hw _ (List.mem_of_getElem? (i := 18) rfl))) Via.refl e325 F2 (g := (mkF m 74 #[.val (.ref a1), .val (.double x), .second, .val (.int (2 : Int32)), .unset, .unset, .val (.int (1 : Int32))] [(.ref a1)])) rfl rfl (hb hby dC3_1_74)
  refine own_go st327 ?_
  show own_G p.tables e below s _ _ _ (T327.setTop (mkF m 77 #[.val (.ref a1), .val (.double x), .second, .val (.int (2 : Int32)), .unset, .unset, .val (.int (1 : Int32))] [(.ref ya)]))
  refine own_go (fun t k => XS.iload X327.here hx rfl (hb hby dC3_1_77) rfl k) ?_
  show own_G p.tables e below s _ _ _ (T327.setTop (mkF m 79 #[.val (.ref a1), .val (.double x), .second, .val (.int (2 : Int32)), .unset, .unset, .val (.int (1 : Int32))] [(.int (1 : Int32)), (.ref ya)]))
  refine own_go (fun t k => XS.iconst X327.here hx rfl (hb hby dC3_1_79) k) ?_
  show own_G p.tables e below s _ _ _ (T327.setTop (mkF m 80 #[.val (.ref a1), .val (.double x), .second, .val (.int (2 : Int32)), .unset, .unset, .val (.int (1 : Int32))] [(.int (1 : Int32)), (.int (1 : Int32)), (.ref ya)]))
  refine own_go (fun t k => XS.isub X327.here hx rfl (hb hby dC3_1_80) rfl k) ?_
  show own_G p.tables e below s _ _ _ (T327.setTop (mkF m 81 #[.val (.ref a1), .val (.double x), .second, .val (.int (2 : Int32)), .unset, .unset, .val (.int (1 : Int32))] [(.int (0 : Int32)), (.ref ya)]))
  obtain ⟨cl328, Ar328, q328, S328, NN328, HH328, GG328⟩ := id V2
  have hin328 : ¬ ((0 : Int32) < 0 ∨ cl328.slots.size ≤ ((0 : Int32)).toNatClampNeg) := inb_of S328 ⟨by decide, by decide⟩
  have hat328 : cl328.slots[((0 : Int32)).toNatClampNeg]? = some (.double y0) := Has.at HH328 hin328 rfl
  refine own_go (fun t k => X327.daload hx (j := (0 : Int32)) (v := (.double y0)) (by rw [e327]; exact Ar328.1) (State.isArrayOf_alike hZ.alike Ar328.2.1) Ar328.2.2 hin328 hat328 (g := (mkF m 81 #[.val (.ref a1), .val (.double x), .second, .val (.int (2 : Int32)), .unset, .unset, .val (.int (1 : Int32))] [(.int (0 : Int32)), (.ref ya)])) rfl rfl (hb hby dC3_1_81) _ k) ?_
  show own_G p.tables e below s _ _ _ (T327.setTop (mkF m 82 #[.val (.ref a1), .val (.double x), .second, .val (.int (2 : Int32)), .unset, .unset, .val (.int (1 : Int32))] [(.double y0)]))
  refine own_go (fun t k => XS.aloadN X327.here hx rfl (hb hby dC3_1_82) rfl rfl k) ?_
  show own_G p.tables e below s _ _ _ (T327.setTop (mkF m 83 #[.val (.ref a1), .val (.double x), .second, .val (.int (2 : Int32)), .unset, .unset, .val (.int (1 : Int32))] [(.ref a1), (.double y0)]))
  obtain ⟨T329, X329, e329, st329⟩ := getF X327 hx hZ hown (host := "") (Or.inl (hw _ (List.mem_of_getElem? (i := 18) rfl))) Via.refl e327 F2 (g := (mkF m 83 #[.val (.ref a1), .val (.double x), .second, .val (.int (2 : Int32)), .unset, .unset, .val (.int (1 : Int32))] [(.ref a1), (.double y0)])) rfl rfl (hb hby dC3_1_83)
  refine own_go st329 ?_
  show own_G p.tables e below s _ _ _ (T329.setTop (mkF m 86 #[.val (.ref a1), .val (.double x), .second, .val (.int (2 : Int32)), .unset, .unset, .val (.int (1 : Int32))] [(.ref ya), (.double y0)]))
  refine own_go (fun t k => XS.iload X329.here hx rfl (hb hby dC3_1_86) rfl k) ?_
  show own_G p.tables e below s _ _ _ (T329.setTop (mkF m 88 #[.val (.ref a1), .val (.double x), .second, .val (.int (2 : Int32)), .unset, .unset, .val (.int (1 : Int32))] [(.int (1 : Int32)), (.ref ya), (.double y0)]))
  obtain ⟨cl330, Ar330, q330, S330, NN330, HH330, GG330⟩ := id V2
  have hin330 : ¬ ((1 : Int32) < 0 ∨ cl330.slots.size ≤ ((1 : Int32)).toNatClampNeg) := inb_of S330 ⟨by decide, by decide⟩
  have hat330 : cl330.slots[((1 : Int32)).toNatClampNeg]? = some (.double y1) := Has.at HH330 hin330 rfl
  refine own_go (fun t k => X329.daload hx (j := (1 : Int32)) (v := (.double y1)) (by rw [e329]; exact Ar330.1) (State.isArrayOf_alike hZ.alike Ar330.2.1) Ar330.2.2 hin330 hat330 (g := (mkF m 88 #[.val (.ref a1), .val (.double x), .second, .val (.int (2 : Int32)), .unset, .unset, .val (.int (1 : Int32))] [(.int (1 : Int32)), (.ref ya), (.double y0)])) rfl rfl (hb hby dC3_1_88) _ k) ?_
  show own_G p.tables e below s _ _ _ (T329.setTop (mkF m 89 #[.val (.ref a1), .val (.double x), .second, .val (.int (2 : Int32)), .unset, .unset, .val (.int (1 : Int32))] [(.double y1), (.double y0)]))
  refine own_go (fun t k => XS.aloadN X329.here hx rfl (hb hby dC3_1_89) rfl rfl k) ?_
  show own_G p.tables e below s _ _ _ (T329.setTop (mkF m 90 #[.val (.ref a1), .val (.double x), .second, .val (.int (2 : Int32)), .unset, .unset, .val (.int (1 : Int32))] [(.ref a1), (.double y1), (.double y0)]))
  obtain ⟨T331, X331, e331, st331⟩ := getF X329 hx hZ hown (host := "") (Or.inl (hw _ (List.mem_of_getElem? (i := 18) rfl))) Via.refl e329 F2 (g := (mkF m 90 #[.val (.ref a1), .val (.double x), .second, .val (.int (2 : Int32)), .unset, .unset, .val (.int (1 : Int32))] [(.ref a1), (.double y1), (.double y0)])) rfl rfl (hb hby dC3_1_90)
  refine own_go st331 ?_
  show own_G p.tables e below s _ _ _ (T331.setTop (mkF m 93 #[.val (.ref a1), .val (.double x), .second, .val (.int (2 : Int32)), .unset, .unset, .val (.int (1 : Int32))] [(.ref ya), (.double y1), (.double y0)]))
  refine own_go (fun t k => XS.iload X331.here hx rfl (hb hby dC3_1_93) rfl k) ?_
  show own_G p.tables e below s _ _ _ (T331.setTop (mkF m 95 #[.val (.ref a1), .val (.double x), .second, .val (.int (2 : Int32)), .unset, .unset, .val (.int (1 : Int32))] [(.int (1 : Int32)), (.ref ya), (.double y1), (.double y0)]))
  refine own_go (fun t k => XS.iconst X331.here hx rfl (hb hby dC3_1_95) k) ?_
  show own_G p.tables e below s _ _ _ (T331.setTop (mkF m 96 #[.val (.ref a1), .val (.double x), .second, .val (.int (2 : Int32)), .unset, .unset, .val (.int (1 : Int32))] [(.int (1 : Int32)), (.int (1 : Int32)), (.ref ya), (.double y1), (.double y0)]))
  refine own_go (fun t k => XS.isub X331.here hx rfl (hb hby dC3_1_96) rfl k) ?_
  show own_G p.tables e below s _ _ _ (T331.setTop (mkF m 97 #[.val (.ref a1), .val (.double x), .second, .val (.int (2 : Int32)), .unset, .unset, .val (.int (1 : Int32))] [(.int (0 : Int32)), (.ref ya), (.double y1), (.double y0)]))
  obtain ⟨cl332, Ar332, q332, S332, NN332, HH332, GG332⟩ := id V2
  have hin332 : ¬ ((0 : Int32) < 0 ∨ cl332.slots.size ≤ ((0 : Int32)).toNatClampNeg) := inb_of S332 ⟨by decide, by decide⟩
  have hat332 : cl332.slots[((0 : Int32)).toNatClampNeg]? = some (.double y0) := Has.at HH332 hin332 rfl
  refine own_go (fun t k => X331.daload hx (j := (0 : Int32)) (v := (.double y0)) (by rw [e331]; exact Ar332.1) (State.isArrayOf_alike hZ.alike Ar332.2.1) Ar332.2.2 hin332 hat332 (g := (mkF m 97 #[.val (.ref a1), .val (.double x), .second, .val (.int (2 : Int32)), .unset, .unset, .val (.int (1 : Int32))] [(.int (0 : Int32)), (.ref ya), (.double y1), (.double y0)])) rfl rfl (hb hby dC3_1_97) _ k) ?_
  show own_G p.tables e below s _ _ _ (T331.setTop (mkF m 98 #[.val (.ref a1), .val (.double x), .second, .val (.int (2 : Int32)), .unset, .unset, .val (.int (1 : Int32))] [(.double y0), (.double y1), (.double y0)]))
  obtain ⟨d333, hd333⟩ : ∃ z, Jvm.FP.dsub y1 y0 = z := ⟨_, rfl⟩
  have D333 : own_E (PY1 - PY0) d333 := by rw [← hd333]; exact own_sub hy1 hy0 b1
  refine own_go (fun t k => XS.dsubS X331.here hx rfl (hb hby dC3_1_98) rfl (by rw [hd333]; exact own_num D333) hd333 k) ?_
  show own_G p.tables e below s _ _ _ (T331.setTop (mkF m 99 #[.val (.ref a1), .val (.double x), .second, .val (.int (2 : Int32)), .unset, .unset, .val (.int (1 : Int32))] [(.double d333), (.double y0)]))
  refine own_go (fun t k => XS.dloadN X331.here hx rfl (hb hby dC3_1_99) rfl k) ?_
  show own_G p.tables e below s _ _ _ (T331.setTop (mkF m 100 #[.val (.ref a1), .val (.double x), .second, .val (.int (2 : Int32)), .unset, .unset, .val (.int (1 : Int32))] [(.double x), (.double d333), (.double y0)]))
  refine own_go (fun t k => XS.aloadN X331.here hx rfl (hb hby dC3_1_100) rfl rfl k) ?_
  show own_G p.tables e below s _ _ _ (T331.setTop (mkF m 101 #[.val (.ref a1), .val (.double x), .second, .val (.int (2 : Int32)), .unset, .unset, .val (.int (1 : Int32))] [(.ref a1), (.double x), (.double d333), (.double y0)]))
  obtain ⟨T334, X334, e334, st334⟩ := getF X331 hx hZ hown (host := "") (Or.inl (hw _ (List.mem_of_getElem? (i := 16) rfl))) Via.refl e331 F1 (g := (mkF m 101 #[.val (.ref a1), .val (.double x), .second, .val (.int (2 : Int32)), .unset, .unset, .val (.int (1 : Int32))] [(.ref a1), (.double x), (.double d333), (.double y0)])) rfl rfl (hb hby dC3_1_101)
  refine own_go st334 ?_
  show own_G p.tables e below s _ _ _ (T334.setTop (mkF m 104 #[.val (.ref a1), .val (.double x), .second, .val (.int (2 : Int32)), .unset, .unset, .val (.int (1 : Int32))] [(.ref xa), (.double x), (.double d333), (.double y0)]))
  refine own_go (fun t k => XS.iload X334.here hx rfl (hb hby dC3_1_104) rfl k) ?_
  show own_G p.tables e below s _ _ _ (T334.setTop (mkF m 106 #[.val (.ref a1), .val (.double x), .second, .val (.int (2 : Int32)), .unset, .unset, .val (.int (1 : Int32))] [(.int (1 : Int32)), (.ref xa), (.double x), (.double d333), (.double y0)]))
  refine own_go (fun t k => XS.iconst X334.here hx rfl (hb hby dC3_1_106) k) ?_
  show own_G p.tables e below s _ _ _ (T334.setTop (mkF m 107 #[.val (.ref a1), .val (.double x), .second, .val (.int (2 : Int32)), .unset, .unset, .val (.int (1 : Int32))] [(.int (1 : Int32)), (.int (1 : Int32)), (.ref xa), (.double x), (.double d333), (.double y0)]))
  refine own_go (fun t k => XS.isub X334.here hx rfl (hb hby dC3_1_107) rfl k) ?_
  show own_G p.tables e below s _ _ _ (T334.setTop (mkF m 108 #[.val (.ref a1), .val (.double x), .second, .val (.int (2 : Int32)), .unset, .unset, .val (.int (1 : Int32))] [(.int (0 : Int32)), (.ref xa), (.double x), (.double d333), (.double y0)]))
  obtain ⟨cl335, Ar335, q335, S335, NN335, HH335, GG335⟩ := id V1
  have hin335 : ¬ ((0 : Int32) < 0 ∨ cl335.slots.size ≤ ((0 : Int32)).toNatClampNeg) := inb_of S335 ⟨by decide, by decide⟩
  have hat335 : cl335.slots[((0 : Int32)).toNatClampNeg]? = some (.double x0) := Has.at HH335 hin335 rfl
  refine own_go (fun t k => X334.daload hx (j := (0 : Int32)) (v := (.double x0)) (by rw [e334]; exact Ar335.1) (State.isArrayOf_alike hZ.alike Ar335.2.1) Ar335.2.2 hin335 hat335 (g := (mkF m 108 #[.val (.ref a1), .val (.double x), .second, .val (.int (2 : Int32)), .unset, .unset, .val (.int (1 : Int32))] [(.int (0 : Int32)), (.ref xa), (.double x), (.double d333), (.double y0)])) rfl rfl (hb hby dC3_1_108) _ k) ?_
  show own_G p.tables e below s _ _ _ (T334.setTop (mkF m 109 #[.val (.ref a1), .val (.double x), .second, .val (.int (2 : Int32)), .unset, .unset, .val (.int (1 : Int32))] [(.double x0), (.double x), (.double d333), (.double y0)]))
  obtain ⟨d336, hd336⟩ : ∃ z, Jvm.FP.dsub x x0 = z := ⟨_, rfl⟩
  have D336 : own_E (X - PX0) d336 := by rw [← hd336]; exact own_sub hxx hx0 b2
  refine own_go (fun t k => XS.dsubS X334.here hx rfl (hb hby dC3_1_109) rfl (by rw [hd336]; exact own_num D336) hd336 k) ?_
  show own_G p.tables e below s _ _ _ (T334.setTop (mkF m 110 #[.val (.ref a1), .val (.double x), .second, .val (.int (2 : Int32)), .unset, .unset, .val (.int (1 : Int32))] [(.double d336), (.double d333), (.double y0)]))
  obtain ⟨d337, hd337⟩ : ∃ z, Jvm.FP.dmul d333 d336 = z := ⟨_, rfl⟩
  have D337 : own_E (P) d337 := by rw [← hd337]; exact own_mul D333 D336 hP b3
  refine own_go (fun t k => XS.dmulS X334.here hx rfl (hb hby dC3_1_110) rfl (by rw [hd337]; exact own_num D337) hd337 k) ?_
  show own_G p.tables e below s _ _ _ (T334.setTop (mkF m 111 #[.val (.ref a1), .val (.double x), .second, .val (.int (2 : Int32)), .unset, .unset, .val (.int (1 : Int32))] [(.double d337), (.double y0)]))
  refine own_go (fun t k => XS.aloadN X334.here hx rfl (hb hby dC3_1_111) rfl rfl k) ?_
  show own_G p.tables e below s _ _ _ (T334.setTop (mkF m 112 #[.val (.ref a1), .val (.double x), .second, .val (.int (2 : Int32)), .unset, .unset, .val (.int (1 : Int32))] [(.ref a1), (.double d337), (.double y0)]))
  obtain ⟨T338, X338, e338, st338⟩ := getF X334 hx hZ hown (host := "") (Or.inl (hw _ (List.mem_of_getElem? (i := 16) rfl))) Via.refl e334 F1 (g := (mkF m 112 #[.val (.ref a1), .val (.double x), .second, .val (.int (2 : Int32)), .unset, .unset, .val (.int (1 : Int32))] [(.ref a1), (.double d337), (.double y0)])) rfl rfl (hb hby dC3_1_112)
  refine own_go st338 ?_
  show own_G p.tables e below s _ _ _ (T338.setTop (mkF m 115 #[.val (.ref a1), .val (.double x), .second, .val (.int (2 : Int32)), .unset, .unset, .val (.int (1 : Int32))] [(.ref xa), (.double d337), (.double y0)]))
  refine own_go (fun t k => XS.iload X338.here hx rfl (hb hby dC3_1_115) rfl k) ?_
  show own_G p.tables e below s _ _ _ (T338.setTop (mkF m 117 #[.val (.ref a1), .val (.double x), .second, .val (.int (2 : Int32)), .unset, .unset, .val (.int (1 : Int32))] [(.int (1 : Int32)), (.ref xa), (.double d337), (.double y0)]))
  obtain ⟨cl339, Ar339, q339, S339, NN339, HH339, GG339⟩ := id V1
  have hin339 : ¬ ((1 : Int32) < 0 ∨ cl339.slots.size ≤ ((1 : Int32)).toNatClampNeg) := inb_of S339 ⟨by decide, by decide⟩
  have hat339 : cl339.slots[((1 : Int32)).toNatClampNeg]? = some (.double x1) := Has.at HH339 hin339 rfl
  refine own_go (fun t k => X338.daload hx (j := (1 : Int32)) (v := (.double x1)) (by rw [e338]; exact Ar339.1) (State.isArrayOf_alike hZ.alike Ar339.2.1) Ar339.2.2 hin339 hat339 (g := (mkF m 117 #[.val (.ref a1), .val (.double x), .second, .val (.int (2 : Int32)), .unset, .unset, .val (.int (1 : Int32))] [(.int (1 : Int32)), (.ref xa), (.double d337), (.double y0)])) rfl rfl (hb hby dC3_1_117) _ k) ?_
  show own_G p.tables e below s _ _ _ (T338.setTop (mkF m 118 #[.val (.ref a1), .val (.double x), .second, .val (.int (2 : Int32)), .unset, .unset, .val (.int (1 : Int32))] [(.double x1), (.double d337), (.double y0)]))
  refine own_go (fun t k => XS.aloadN X338.here hx rfl (hb hby dC3_1_118) rfl rfl k) ?_
  show own_G p.tables e below s _ _ _ (T338.setTop (mkF m 119 #[.val (.ref a1), .val (.double x), .second, .val (.int (2 : Int32)), .unset, .unset, .val (.int (1 : Int32))] [(.ref a1), (.double x1), (.double d337), (.double y0)]))
  obtain ⟨T340, X340, e340, st340⟩ := getF X338 hx hZ hown (host := "") (Or.inl (hw _ (List.mem_of_getElem? (i := 16) rfl))) Via.refl e338 F1 (g := (mkF m 119 #[.val (.ref a1), .val (.double x), .second, .val (.int (2 : Int32)), .unset, .unset, .val (.int (1 : Int32))] [(.ref a1), (.double x1), (.double d337), (.double y0)])) rfl rfl (hb hby dC3_1_119)
  refine own_go st340 ?_
  show own_G p.tables e below s _ _ _ (T340.setTop (mkF m 122 #[.val (.ref a1), .val (.double x), .second, .val (.int (2 : Int32)), .unset, .unset, .val (.int (1 : Int32))] [(.ref xa), (.double x1), (.double d337), (.double y0)]))
  refine own_go (fun t k => XS.iload X340.here hx rfl (hb hby dC3_1_122) rfl k) ?_
  show own_G p.tables e below s _ _ _ (T340.setTop (mkF m 124 #[.val (.ref a1), .val (.double x), .second, .val (.int (2 : Int32)), .unset, .unset, .val (.int (1 : Int32))] [(.int (1 : Int32)), (.ref xa), (.double x1), (.double d337), (.double y0)]))
  refine own_go (fun t k => XS.iconst X340.here hx rfl (hb hby dC3_1_124) k) ?_
  show own_G p.tables e below s _ _ _ (T340.setTop (mkF m 125 #[.val (.ref a1), .val (.double x), .second, .val (.int (2 : Int32)), .unset, .unset, .val (.int (1 : Int32))] [(.int (1 : Int32)), (.int (1 : Int32)), (.ref xa), (.double x1), (.double d337), (.double y0)]))
  refine own_go (fun t k => XS.isub X340.here hx rfl (hb hby dC3_1_125) rfl k) ?_
  show own_G p.tables e below s _ _ _ (T340.setTop (mkF m 126 #[.val (.ref a1), .val (.double x), .second, .val (.int (2 : Int32)), .unset, .unset, .val (.int (1 : Int32))] [(.int (0 : Int32)), (.ref xa), (.double x1), (.double d337), (.double y0)]))
  obtain ⟨cl341, Ar341, q341, S341, NN341, HH341, GG341⟩ := id V1
  have hin341 : ¬ ((0 : Int32) < 0 ∨ cl341.slots.size ≤ ((0 : Int32)).toNatClampNeg) := inb_of S341 ⟨by decide, by decide⟩
  have hat341 : cl341.slots[((0 : Int32)).toNatClampNeg]? = some (.double x0) := Has.at HH341 hin341 rfl
  refine own_go (fun t k => X340.daload hx (j := (0 : Int32)) (v := (.double x0)) (by rw [e340]; exact Ar341.1) (State.isArrayOf_alike hZ.alike Ar341.2.1) Ar341.2.2 hin341 hat341 (g := (mkF m 126 #[.val (.ref a1), .val (.double x), .second, .val (.int (2 : Int32)), .unset, .unset, .val (.int (1 : Int32))] [(.int (0 : Int32)), (.ref xa), (.double x1), (.double d337), (.double y0)])) rfl rfl (hb hby dC3_1_126) _ k) ?_
  show own_G p.tables e below s _ _ _ (T340.setTop (mkF m 127 #[.val (.ref a1), .val (.double x), .second, .val (.int (2 : Int32)), .unset, .unset, .val (.int (1 : Int32))] [(.double x0), (.double x1), (.double d337), (.double y0)]))
  obtain ⟨d342, hd342⟩ : ∃ z, Jvm.FP.dsub x1 x0 = z := ⟨_, rfl⟩
  have D342 : own_E (PX1 - PX0) d342 := by rw [← hd342]; exact own_sub hx1 hx0 b4
  refine own_go (fun t k => XS.dsubS X340.here hx rfl (hb hby dC3_1_127) rfl (by rw [hd342]; exact own_num D342) hd342 k) ?_
  show own_G p.tables e below s _ _ _ (T340.setTop (mkF m 128 #[.val (.ref a1), .val (.double x), .second, .val (.int (2 : Int32)), .unset, .unset, .val (.int (1 : Int32))] [(.double d342), (.double d337), (.double y0)]))
  obtain ⟨d343, hd343⟩ : ∃ z, Jvm.FP.ddiv d337 d342 = z := ⟨_, rfl⟩
  have D343 : own_E (T) d343 := by rw [← hd343]; exact own_div D337 D342 hne hT b5
  refine own_go (fun t k => XS.ddivS X340.here hx rfl (hb hby dC3_1_128) rfl (by rw [hd343]; exact own_num D343) hd343 k) ?_
  show own_G p.tables e below s _ _ _ (T340.setTop (mkF m 129 #[.val (.ref a1), .val (.double x), .second, .val (.int (2 : Int32)), .unset, .unset, .val (.int (1 : Int32))] [(.double d343), (.double y0)]))
  obtain ⟨d344, hd344⟩ : ∃ z, Jvm.FP.dadd y0 d343 = z := ⟨_, rfl⟩
  have D344 : own_E (PY0 + T) d344 := by rw [← hd344]; exact own_add hy0 D343 b6
  refine own_go (fun t k => XS.daddS X340.here hx rfl (hb hby dC3_1_129) rfl (by rw [hd344]; exact own_num D344) hd344 k) ?_
  show own_G p.tables e below s _ _ _ (T340.setTop (mkF m 130 #[.val (.ref a1), .val (.double x), .second, .val (.int (2 : Int32)), .unset, .unset, .val (.int (1 : Int32))] [(.double d344)]))
  refine own_go (fun t k => XS.dstore X340.here hx rfl (hb hby dC3_1_130) rfl (l' := #[.val (.ref a1), .val (.double x), .second, .val (.int (2 : Int32)), .val (.double d344), .second, .val (.int (1 : Int32))]) rfl k) ?_
  show own_G p.tables e below s _ _ _ (T340.setTop (mkF m 132 #[.val (.ref a1), .val (.double x), .second, .val (.int (2 : Int32)), .val (.double d344), .second, .val (.int (1 : Int32))] []))
  refine own_go (fun t k => XS.dload X340.here hx rfl (hb hby dC3_1_132) rfl k) ?_
  show own_G p.tables e below s _ _ _ (T340.setTop (mkF m 134 #[.val (.ref a1), .val (.double x), .second, .val (.int (2 : Int32)), .val (.double d344), .second, .val (.int (1 : Int32))] [(.double d344)]))
  exact own_retD X340 hx hlk Bd.returns (hb hby dC3_1_134) (by rw [e340]; exact ⟨⟨_, rfl, D344⟩, N0, rfl⟩) (by decide) (by decide)
theorem dC3_2_0 : decode prog_17_method_3_code 0 = .ok (.aload_n 0, 1) := by decide +kernel
theorem dC3_2_1 : decode prog_17_method_3_code 1 = .ok (.getfield 7, 3) := by decide +kernel
theorem dC3_2_4 : decode prog_17_method_3_code 4 = .ok (.arraylength, 1) := by decide +kernel
theorem dC3_2_5 : decode prog_17_method_3_code 5 = .ok (.iconst 1, 1) := by decide +kernel
theorem dC3_2_6 : decode prog_17_method_3_code 6 = .ok (.isub, 1) := by decide +kernel
theorem dC3_2_7 : decode prog_17_method_3_code 7 = .ok (.istore_n 3, 1) := by decide +kernel
theorem dC3_2_8 : decode prog_17_method_3_code 8 = .ok (.dload_n 1, 1) := by decide +kernel
theorem dC3_2_9 : decode prog_17_method_3_code 9 = .ok (.aload_n 0, 1) := by decide +kernel
theorem dC3_2_10 : decode prog_17_method_3_code 10 = .ok (.getfield 7, 3) := by decide +kernel
theorem dC3_2_13 : decode prog_17_method_3_code 13 = .ok (.iconst 0, 1) := by decide +kernel
theorem dC3_2_14 : decode prog_17_method_3_code 14 = .ok (.daload, 1) := by decide +kernel
theorem dC3_2_15 : decode prog_17_method_3_code 15 = .ok (.dcmp .g, 1) := by decide +kernel
theorem dC3_2_16 : decode prog_17_method_3_code 16 = .ok (.ifCond .gt 14, 3) := by decide +kernel
theorem dC3_2_30 : decode prog_17_method_3_code 30 = .ok (.dload_n 1, 1) := by decide +kernel
theorem dC3_2_31 : decode prog_17_method_3_code 31 = .ok (.aload_n 0, 1) := by decide +kernel
theorem dC3_2_32 : decode prog_17_method_3_code 32 = .ok (.getfield 7, 3) := by decide +kernel
theorem dC3_2_35 : decode prog_17_method_3_code 35 = .ok (.iload_n 3, 1) := by decide +kernel
theorem dC3_2_36 : decode prog_17_method_3_code 36 = .ok (.daload, 1) := by decide +kernel
theorem dC3_2_37 : decode prog_17_method_3_code 37 = .ok (.dcmp .l, 1) := by decide +kernel
theorem dC3_2_38 : decode prog_17_method_3_code 38 = .ok (.ifCond .lt 14, 3) := by decide +kernel
theorem dC3_2_52 : decode prog_17_method_3_code 52 = .ok (.iconst 1, 1) := by decide +kernel
theorem dC3_2_53 : decode prog_17_method_3_code 53 = .ok (.istore 6, 2) := by decide +kernel
theorem dC3_2_55 : decode prog_17_method_3_code 55 = .ok (.aload_n 0, 1) := by decide +kernel
theorem dC3_2_56 : decode prog_17_method_3_code 56 = .ok (.getfield 7, 3) := by decide +kernel
theorem dC3_2_59 : decode prog_17_method_3_code 59 = .ok (.iload 6, 2) := by decide +kernel
theorem dC3_2_61 : decode prog_17_method_3_code 61 = .ok (.daload, 1) := by decide +kernel
theorem dC3_2_62 : decode prog_17_method_3_code 62 = .ok (.dload_n 1, 1) := by decide +kernel
theorem dC3_2_63 : decode prog_17_method_3_code 63 = .ok (.dcmp .g, 1) := by decide +kernel
theorem dC3_2_64 : decode prog_17_method_3_code 64 = .ok (.ifCond .ge 9, 3) := by decide +kernel
theorem dC3_2_67 : decode prog_17_method_3_code 67 = .ok (.iinc 6 1, 3) := by decide +kernel
theorem dC3_2_70 : decode prog_17_method_3_code 70 = .ok (.goto (-15), 3) := by decide +kernel
theorem dC3_2_73 : decode prog_17_method_3_code 73 = .ok (.aload_n 0, 1) := by decide +kernel
theorem dC3_2_74 : decode prog_17_method_3_code 74 = .ok (.getfield 13, 3) := by decide +kernel
theorem dC3_2_77 : decode prog_17_method_3_code 77 = .ok (.iload 6, 2) := by decide +kernel
theorem dC3_2_79 : decode prog_17_method_3_code 79 = .ok (.iconst 1, 1) := by decide +kernel
theorem dC3_2_80 : decode prog_17_method_3_code 80 = .ok (.isub, 1) := by decide +kernel
theorem dC3_2_81 : decode prog_17_method_3_code 81 = .ok (.daload, 1) := by decide +kernel
theorem dC3_2_82 : decode prog_17_method_3_code 82 = .ok (.aload_n 0, 1) := by decide +kernel
theorem dC3_2_83 : decode prog_17_method_3_code 83 = .ok (.getfield 13, 3) := by decide +kernel
theorem dC3_2_86 : decode prog_17_method_3_code 86 = .ok (.iload 6, 2) := by decide +kernel
theorem dC3_2_88 : decode prog_17_method_3_code 88 = .ok (.daload, 1) := by decide +kernel
theorem dC3_2_89 : decode prog_17_method_3_code 89 = .ok (.aload_n 0, 1) := by decide +kernel
theorem dC3_2_90 : decode prog_17_method_3_code 90 = .ok (.getfield 13, 3) := by decide +kernel
theorem dC3_2_93 : decode prog_17_method_3_code 93 = .ok (.iload 6, 2) := by decide +kernel
theorem dC3_2_95 : decode prog_17_method_3_code 95 = .ok (.iconst 1, 1) := by decide +kernel
theorem dC3_2_96 : decode prog_17_method_3_code 96 = .ok (.isub, 1) := by decide +kernel
theorem dC3_2_97 : decode prog_17_method_3_code 97 = .ok (.daload, 1) := by decide +kernel
theorem dC3_2_98 : decode prog_17_method_3_code 98 = .ok (.dsub, 1) := by decide +kernel
theorem dC3_2_99 : decode prog_17_method_3_code 99 = .ok (.dload_n 1, 1) := by decide +kernel
theorem dC3_2_100 : decode prog_17_method_3_code 100 = .ok (.aload_n 0, 1) := by decide +kernel
theorem dC3_2_101 : decode prog_17_method_3_code 101 = .ok (.getfield 7, 3) := by decide +kernel
theorem dC3_2_104 : decode prog_17_method_3_code 104 = .ok (.iload 6, 2) := by decide +kernel
theorem dC3_2_106 : decode prog_17_method_3_code 106 = .ok (.iconst 1, 1) := by decide +kernel
theorem dC3_2_107 : decode prog_17_method_3_code 107 = .ok (.isub, 1) := by decide +kernel
theorem dC3_2_108 : decode prog_17_method_3_code 108 = .ok (.daload, 1) := by decide +kernel
theorem dC3_2_109 : decode prog_17_method_3_code 109 = .ok (.dsub, 1) := by decide +kernel
theorem dC3_2_110 : decode prog_17_method_3_code 110 = .ok (.dmul, 1) := by decide +kernel
theorem dC3_2_111 : decode prog_17_method_3_code 111 = .ok (.aload_n 0, 1) := by decide +kernel
theorem dC3_2_112 : decode prog_17_method_3_code 112 = .ok (.getfield 7, 3) := by decide +kernel
theorem dC3_2_115 : decode prog_17_method_3_code 115 = .ok (.iload 6, 2) := by decide +kernel
theorem dC3_2_117 : decode prog_17_method_3_code 117 = .ok (.daload, 1) := by decide +kernel
theorem dC3_2_118 : decode prog_17_method_3_code 118 = .ok (.aload_n 0, 1) := by decide +kernel
theorem dC3_2_119 : decode prog_17_method_3_code 119 = .ok (.getfield 7, 3) := by decide +kernel
theorem dC3_2_122 : decode prog_17_method_3_code 122 = .ok (.iload 6, 2) := by decide +kernel
theorem dC3_2_124 : decode prog_17_method_3_code 124 = .ok (.iconst 1, 1) := by decide +kernel
theorem dC3_2_125 : decode prog_17_method_3_code 125 = .ok (.isub, 1) := by decide +kernel
theorem dC3_2_126 : decode prog_17_method_3_code 126 = .ok (.daload, 1) := by decide +kernel
theorem dC3_2_127 : decode prog_17_method_3_code 127 = .ok (.dsub, 1) := by decide +kernel
theorem dC3_2_128 : decode prog_17_method_3_code 128 = .ok (.ddiv, 1) := by decide +kernel
theorem dC3_2_129 : decode prog_17_method_3_code 129 = .ok (.dadd, 1) := by decide +kernel
theorem dC3_2_130 : decode prog_17_method_3_code 130 = .ok (.dstore 4, 2) := by decide +kernel
theorem dC3_2_132 : decode prog_17_method_3_code 132 = .ok (.dload 4, 2) := by decide +kernel
theorem dC3_2_134 : decode prog_17_method_3_code 134 = .ok (.dreturn, 1) := by decide +kernel
theorem ef_C3_2 (m : MethodId) (x0 : Addr) (x1 : UInt64) : entryFrame m #[(.ref x0), (.double x1)] 7 = mkF m 0 #[.val (.ref x0), .val (.double x1), .second, .unset, .unset, .unset, .unset] [] := by first | (simp [entryFrame, mkF, argsToLocals, Value.category]; done) | rfl
def QC3_2 (Z : State) (a1 xa ya : Addr) (kx ky : ClassId) (x : UInt64) (X : Int) (x0 y0 x1 y1 x2 y2 : UInt64) (PX0 PY0 PX1 PY1 PX2 PY2 : Int) (P T : Int) (h0 : Heap) (n0 : Nat) (v : Option Value) (h : Heap) (L : List Loc) : Prop := (∃ w : UInt64, v = some (.double w) ∧ own_E (PY1 + T) w) ∧ Fr n0 L ∧ h = h0
set_option maxRecDepth 65536 in
set_option maxHeartbeats 40000000 in
theorem rmC3_2 (l : Launch) (Z : State) (a0 : Array Value) (hw : ∀ d ∈ tables_1, d.before a0 Z = true) (ws : List Jvm.Cond) (a1 xa ya : Addr) (kx ky : ClassId) (x : UInt64) (X : Int) (x0 y0 x1 y1 x2 y2 : UInt64) (PX0 PY0 PX1 PY1 PX2 PY2 : Int) (P T : Int) (h0 : Heap) (n0 : Nat) (Z0 : n0 ≤ h0.size) (hxx : own_E X x) (hx0 : own_E PX0 x0) (hy0 : own_E PY0 y0) (hx1 : own_E PX1 x1) (hy1 : own_E PY1 y1) (hx2 : own_E PX2 x2) (hy2 : own_E PY2 y2) (F1 : Fld Z h0 a1 "com/example/options_into_arguments/optionsintoarguments/quality/Curve" "xs" "[D" (.ref xa)) (F2 : Fld Z h0 a1 "com/example/options_into_arguments/optionsintoarguments/quality/Curve" "ys" "[D" (.ref ya)) (V1 : Arv Z h0 xa kx .double (3 : Int32) [(.double x0), (.double x1), (.double x2)] (.double 0)) (V2 : Arv Z h0 ya ky .double (3 : Int32) [(.double y0), (.double y1), (.double y2)] (.double 0)) (hB : PX0 < X) (hB2 : X < PX2) (hI : X ≤ PX2) (hJ : PX1 < X) (hP : (PY2 - PY1) * (X - PX1) = 8 * P) (hT : 8 * P = T * (PX2 - PX1)) (hne : PX2 - PX1 ≠ 0) (b1 : (PY2 - PY1).natAbs < 2 ^ 53) (b2 : (X - PX1).natAbs < 2 ^ 53) (b3 : P.natAbs < 2 ^ 53) (b4 : (PX2 - PX1).natAbs < 2 ^ 53) (b5 : T.natAbs < 2 ^ 53) (b6 : (PY1 + T).natAbs < 2 ^ 53) :
    MetFree l (⟨"com/example/options_into_arguments/optionsintoarguments/quality/Curve", "at", "(D)D"⟩ : MethodName) (head1 (Jvm.Cond.code (⟨"com/example/options_into_arguments/optionsintoarguments/quality/Curve", "at", "(D)D"⟩ : MethodName) prog_17_method_3_code 7 (some .double) :: ws) ({ frames := 0, cells := 0, slots := 0, locals := 0 } : Room)) (fun a U => a = #[(.ref a1), (.double x)] ∧ Z.Warmed39 U.vm ∧ U.heap = h0) (fun _ _ _ _ _ => True) (fun _ U o U' => ∃ v L, o = .returned v ∧ QC3_2 Z a1 xa ya kx ky x X x0 y0 x1 y1 x2 y2 PX0 PY0 PX1 PY1 PX2 PY2 P T h0 n0 v U'.heap L ∧ FrameEnd U o U' L ({ frames := 0, cells := 0, slots := 0, locals := 0 } : Room).cells ({ frames := 0, cells := 0, slots := 0, locals := 0 } : Room).slots) := by
  refine MetFree.of_bodySF (plainFor_of_name pn_com_example_options_into_arguments_optionsintoarguments_quality_Curve) hisR ?_
  intro p e s m args below meth c s₁ Bd hml0 hP hK
  obtain ⟨rfl, hZ, hh⟩ := hP
  have hx := Bd.exec
  have hby := Bd.bytes
  have hlk : meth.locks = false := BodyLoose.notSynchronized Bd
  have hml : c.maxLocals = 7 := hml0
  have hown : s.vm.findClass "com/example/options_into_arguments/optionsintoarguments/quality/Curve" = some m.cls := findClass_of_methodNamed Bd.named
  have hnm := (name_of_methodNamed Bd.named Bd.method).1
  have X0 : Stand p l e ({ frames := 0, cells := 0, slots := 0, locals := 0 } : Room) s m #[(.ref a1), (.double x)] below meth c s₁ [] 0 0 := Stand.of_body Bd
  have e0 : s₁.heap = h0 := by rw [← hh, Bd.state]; rfl
  have N0 := Fr.nil n0
  show own_G p.tables e below s (QC3_2 Z a1 xa ya kx ky x X x0 y0 x1 y1 x2 y2 PX0 PY0 PX1 PY1 PX2 PY2 P T h0 n0) ({ frames := 0, cells := 0, slots := 0, locals := 0 } : Room).cells ({ frames := 0, cells := 0, slots := 0, locals := 0 } : Room).slots (s₁.setTop (entryFrame m #[(.ref a1), (.double x)] 7))
  refine own_go (fun t k => castTop (ef_C3_2 m a1 x) k) ?_
  show own_G p.tables e below s _ _ _ (s₁.setTop (mkF m 0 #[.val (.ref a1), .val (.double x), .second, .unset, .unset, .unset, .unset] []))
  refine own_go (fun t k => XS.aloadN X0.here hx rfl (hb hby dC3_2_0) rfl rfl k) ?_
  show own_G p.tables e below s _ _ _ (s₁.setTop (mkF m 1 #[.val (.ref a1), .val (.double x), .second, .unset, .unset, .unset, .unset] [(.ref a1)]))
  obtain ⟨T345, X345, e345, st345⟩ := getF X0 hx hZ hown (host := "") (Or.inl (hw _ (List.mem_of_getElem? (i := 16) rfl))) Via.refl e0 F1 (g := (mkF m 1 #[.val (.ref a1), .val (.double x), .second, .unset, .unset, .unset, .unset] [(.ref a1)])) rfl rfl (hb hby dC3_2_1)
  refine own_go st345 ?_
  show own_G p.tables e below s _ _ _ (T345.setTop (mkF m 4 #[.val (.ref a1), .val (.double x), .second, .unset, .unset, .unset, .unset] [(.ref xa)]))
  obtain ⟨cl346, Ar346, q346, S346, NN346, HH346, GG346⟩ := id V1
  have hlen346 := len_of S346 NN346
  refine own_go (A := T345.setTop (mkF m 5 #[.val (.ref a1), .val (.double x), .second, .unset, .unset, .unset, .unset] [(.int (3 : Int32))])) (fun t k => X345.arraylength hx (by rw [e345]; exact Ar346.1) (State.isArrayOf_alike hZ.alike Ar346.2.1) (g := (mkF m 4 #[.val (.ref a1), .val (.double x), .second, .unset, .unset, .unset, .unset] [(.ref xa)])) rfl rfl (hb hby dC3_2_4) _ (by rw [hlen346]; exact k)) ?_
  show own_G p.tables e below s _ _ _ (T345.setTop (mkF m 5 #[.val (.ref a1), .val (.double x), .second, .unset, .unset, .unset, .unset] [(.int (3 : Int32))]))
  refine own_go (fun t k => XS.iconst X345.here hx rfl (hb hby dC3_2_5) k) ?_
  show own_G p.tables e below s _ _ _ (T345.setTop (mkF m 6 #[.val (.ref a1), .val (.double x), .second, .unset, .unset, .unset, .unset] [(.int (1 : Int32)), (.int (3 : Int32))]))
  refine own_go (fun t k => XS.isub X345.here hx rfl (hb hby dC3_2_6) rfl k) ?_
  show own_G p.tables e below s _ _ _ (T345.setTop (mkF m 7 #[.val (.ref a1), .val (.double x), .second, .unset, .unset, .unset, .unset] [(.int (2 : Int32))]))
  refine own_go (fun t k => XS.istoreN X345.here hx rfl (hb hby dC3_2_7) rfl (l' := #[.val (.ref a1), .val (.double x), .second, .val (.int (2 : Int32)), .unset, .unset, .unset]) rfl k) ?_
  show own_G p.tables e below s _ _ _ (T345.setTop (mkF m 8 #[.val (.ref a1), .val (.double x), .second, .val (.int (2 : Int32)), .unset, .unset, .unset] []))
  refine own_go (fun t k => XS.dloadN X345.here hx rfl (hb hby dC3_2_8) rfl k) ?_
  show own_G p.tables e below s _ _ _ (T345.setTop (mkF m 9 #[.val (.ref a1), .val (.double x), .second, .val (.int (2 : Int32)), .unset, .unset, .unset] [(.double x)]))
  refine own_go (fun t k => XS.aloadN X345.here hx rfl (hb hby dC3_2_9) rfl rfl k) ?_
  show own_G p.tables e below s _ _ _ (T345.setTop (mkF m 10 #[.val (.ref a1), .val (.double x), .second, .val (.int (2 : Int32)), .unset, .unset, .unset] [(.ref a1), (.double x)]))
  obtain ⟨T347, X347, e347, st347⟩ := getF X345 hx hZ hown (host := "") (Or.inl (hw _ (List.mem_of_getElem? (i := 16) rfl))) Via.refl e345 F1 (g := (mkF m 10 #[.val (.ref a1), .val (.double x), .second, .val (.int (2 : Int32)), .unset, .unset, .unset] [(.ref a1), (.double x)])) rfl rfl (hb hby dC3_2_10)
  refine own_go st347 ?_
  show own_G p.tables e below s _ _ _ (T347.setTop (mkF m 13 #[.val (.ref a1), .val (.double x), .second, .val (.int (2 : Int32)), .unset, .unset, .unset] [(.ref xa), (.double x)]))
  refine own_go (fun t k => XS.iconst X347.here hx rfl (hb hby dC3_2_13) k) ?_
  show own_G p.tables e below s _ _ _ (T347.setTop (mkF m 14 #[.val (.ref a1), .val (.double x), .second, .val (.int (2 : Int32)), .unset, .unset, .unset] [(.int (0 : Int32)), (.ref xa), (.double x)]))
  obtain ⟨cl348, Ar348, q348, S348, NN348, HH348, GG348⟩ := id V1
  have hin348 : ¬ ((0 : Int32) < 0 ∨ cl348.slots.size ≤ ((0 : Int32)).toNatClampNeg) := inb_of S348 ⟨by decide, by decide⟩
  have hat348 : cl348.slots[((0 : Int32)).toNatClampNeg]? = some (.double x0) := Has.at HH348 hin348 rfl
  refine own_go (fun t k => X347.daload hx (j := (0 : Int32)) (v := (.double x0)) (by rw [e347]; exact Ar348.1) (State.isArrayOf_alike hZ.alike Ar348.2.1) Ar348.2.2 hin348 hat348 (g := (mkF m 14 #[.val (.ref a1), .val (.double x), .second, .val (.int (2 : Int32)), .unset, .unset, .unset] [(.int (0 : Int32)), (.ref xa), (.double x)])) rfl rfl (hb hby dC3_2_14) _ k) ?_
  show own_G p.tables e below s _ _ _ (T347.setTop (mkF m 15 #[.val (.ref a1), .val (.double x), .second, .val (.int (2 : Int32)), .unset, .unset, .unset] [(.double x0), (.double x)]))
  refine own_go (fun t k => XS.dcmpS X347.here hx rfl (hb hby dC3_2_15) rfl (own_cmpv hxx hx0) k) ?_
  show own_G p.tables e below s _ _ _ (T347.setTop (mkF m 16 #[.val (.ref a1), .val (.double x), .second, .val (.int (2 : Int32)), .unset, .unset, .unset] [(.int (own_c (X) (PX0)))]))
  refine own_go (fun t k => XS.ifYes X347.here hx rfl (pc0 := 16) (pc' := 30) rfl (hb hby dC3_2_16) rfl (Jvm.Free.XT.i0_gt_t (own_c_gt hB)) (by decide) (by decide) k) ?_
  show own_G p.tables e below s _ _ _ (T347.setTop (mkF m 30 #[.val (.ref a1), .val (.double x), .second, .val (.int (2 : Int32)), .unset, .unset, .unset] []))
  refine own_go (fun t k => XS.dloadN X347.here hx rfl (hb hby dC3_2_30) rfl k) ?_
  show own_G p.tables e below s _ _ _ (T347.setTop (mkF m 31 #[.val (.ref a1), .val (.double x), .second, .val (.int (2 : Int32)), .unset, .unset, .unset] [(.double x)]))
  refine own_go (fun t k => XS.aloadN X347.here hx rfl (hb hby dC3_2_31) rfl rfl k) ?_
  show own_G p.tables e below s _ _ _ (T347.setTop (mkF m 32 #[.val (.ref a1), .val (.double x), .second, .val (.int (2 : Int32)), .unset, .unset, .unset] [(.ref a1), (.double x)]))
  obtain ⟨T349, X349, e349, st349⟩ := getF X347 hx hZ hown (host := "") (Or.inl (hw _ (List.mem_of_getElem? (i := 16) rfl))) Via.refl e347 F1 (g := (mkF m 32 #[.val (.ref a1), .val (.double x), .second, .val (.int (2 : Int32)), .unset, .unset, .unset] [(.ref a1), (.double x)])) rfl rfl (hb hby dC3_2_32)
  refine own_go st349 ?_
  show own_G p.tables e below s _ _ _ (T349.setTop (mkF m 35 #[.val (.ref a1), .val (.double x), .second, .val (.int (2 : Int32)), .unset, .unset, .unset] [(.ref xa), (.double x)]))
  refine own_go (fun t k => XS.iloadN X349.here hx rfl (hb hby dC3_2_35) rfl k) ?_
  show own_G p.tables e below s _ _ _ (T349.setTop (mkF m 36 #[.val (.ref a1), .val (.double x), .second, .val (.int (2 : Int32)), .unset, .unset, .unset] [(.int (2 : Int32)), (.ref xa), (.double x)]))
  obtain ⟨cl350, Ar350, q350, S350, NN350, HH350, GG350⟩ := id V1
  have hin350 : ¬ ((2 : Int32) < 0 ∨ cl350.slots.size ≤ ((2 : Int32)).toNatClampNeg) := inb_of S350 ⟨by decide, by decide⟩
  have hat350 : cl350.slots[((2 : Int32)).toNatClampNeg]? = some (.double x2) := Has.at HH350 hin350 rfl
  refine own_go (fun t k => X349.daload hx (j := (2 : Int32)) (v := (.double x2)) (by rw [e349]; exact Ar350.1) (State.isArrayOf_alike hZ.alike Ar350.2.1) Ar350.2.2 hin350 hat350 (g := (mkF m 36 #[.val (.ref a1), .val (.double x), .second, .val (.int (2 : Int32)), .unset, .unset, .unset] [(.int (2 : Int32)), (.ref xa), (.double x)])) rfl rfl (hb hby dC3_2_36) _ k) ?_
  show own_G p.tables e below s _ _ _ (T349.setTop (mkF m 37 #[.val (.ref a1), .val (.double x), .second, .val (.int (2 : Int32)), .unset, .unset, .unset] [(.double x2), (.double x)]))
  refine own_go (fun t k => XS.dcmpS X349.here hx rfl (hb hby dC3_2_37) rfl (own_cmpv hxx hx2) k) ?_
  show own_G p.tables e below s _ _ _ (T349.setTop (mkF m 38 #[.val (.ref a1), .val (.double x), .second, .val (.int (2 : Int32)), .unset, .unset, .unset] [(.int (own_c (X) (PX2)))]))
  refine own_go (fun t k => XS.ifYes X349.here hx rfl (pc0 := 38) (pc' := 52) rfl (hb hby dC3_2_38) rfl (Jvm.Free.XT.i0_lt_t (own_c_lt hB2)) (by decide) (by decide) k) ?_
  show own_G p.tables e below s _ _ _ (T349.setTop (mkF m 52 #[.val (.ref a1), .val (.double x), .second, .val (.int (2 : Int32)), .unset, .unset, .unset] []))
  refine own_go (fun t k => XS.iconst X349.here hx rfl (hb hby dC3_2_52) k) ?_
  show own_G p.tables e below s _ _ _ (T349.setTop (mkF m 53 #[.val (.ref a1), .val (.double x), .second, .val (.int (2 : Int32)), .unset, .unset, .unset] [(.int (1 : Int32))]))
  refine own_go (fun t k => XS.istore X349.here hx rfl (hb hby dC3_2_53) rfl (l' := #[.val (.ref a1), .val (.double x), .second, .val (.int (2 : Int32)), .unset, .unset, .val (.int (1 : Int32))]) rfl k) ?_
  show own_G p.tables e below s _ _ _ (T349.setTop (mkF m 55 #[.val (.ref a1), .val (.double x), .second, .val (.int (2 : Int32)), .unset, .unset, .val (.int (1 : Int32))] []))
  refine own_go (fun t k => XS.aloadN X349.here hx rfl (hb hby dC3_2_55) rfl rfl k) ?_
  show own_G p.tables e below s _ _ _ (T349.setTop (mkF m 56 #[.val (.ref a1), .val (.double x), .second, .val (.int (2 : Int32)), .unset, .unset, .val (.int (1 : Int32))] [(.ref a1)]))
  obtain ⟨T351, X351, e351, st351⟩ := getF X349 hx hZ hown (host := "") (Or.inl (hw _ (List.mem_of_getElem? (i := 16) rfl))) Via.refl e349 F1 (g := (mkF m 56 #[.val (.ref a1), .val (.double x), .second, .val (.int (2 : Int32)), .unset, .unset, .val (.int (1 : Int32))] [(.ref a1)])) rfl rfl (hb hby dC3_2_56)
  refine own_go st351 ?_
  show own_G p.tables e below s _ _ _ (T351.setTop (mkF m 59 #[.val (.ref a1), .val (.double x), .second, .val (.int (2 : Int32)), .unset, .unset, .val (.int (1 : Int32))] [(.ref xa)]))
  refine own_go (fun t k => XS.iload X351.here hx rfl (hb hby dC3_2_59) rfl k) ?_
  show own_G p.tables e below s _ _ _ (T351.setTop (mkF m 61 #[.val (.ref a1), .val (.double x), .second, .val (.int (2 : Int32)), .unset, .unset, .val (.int (1 : Int32))] [(.int (1 : Int32)), (.ref xa)]))
  obtain ⟨cl352, Ar352, q352, S352, NN352, HH352, GG352⟩ := id V1
  have hin352 : ¬ ((1 : Int32) < 0 ∨ cl352.slots.size ≤ ((1 : Int32)).toNatClampNeg) := inb_of S352 ⟨by decide, by decide⟩
  have hat352 : cl352.slots[((1 : Int32)).toNatClampNeg]? = some (.double x1) := Has.at HH352 hin352 rfl
  refine own_go (fun t k => X351.daload hx (j := (1 : Int32)) (v := (.double x1)) (by rw [e351]; exact Ar352.1) (State.isArrayOf_alike hZ.alike Ar352.2.1) Ar352.2.2 hin352 hat352 (g := (mkF m 61 #[.val (.ref a1), .val (.double x), .second, .val (.int (2 : Int32)), .unset, .unset, .val (.int (1 : Int32))] [(.int (1 : Int32)), (.ref xa)])) rfl rfl (hb hby dC3_2_61) _ k) ?_
  show own_G p.tables e below s _ _ _ (T351.setTop (mkF m 62 #[.val (.ref a1), .val (.double x), .second, .val (.int (2 : Int32)), .unset, .unset, .val (.int (1 : Int32))] [(.double x1)]))
  refine own_go (fun t k => XS.dloadN X351.here hx rfl (hb hby dC3_2_62) rfl k) ?_
  show own_G p.tables e below s _ _ _ (T351.setTop (mkF m 63 #[.val (.ref a1), .val (.double x), .second, .val (.int (2 : Int32)), .unset, .unset, .val (.int (1 : Int32))] [(.double x), (.double x1)]))
  refine own_go (fun t k => XS.dcmpS X351.here hx rfl (hb hby dC3_2_63) rfl (own_cmpv hx1 hxx) k) ?_
  show own_G p.tables e below s _ _ _ (T351.setTop (mkF m 64 #[.val (.ref a1), .val (.double x), .second, .val (.int (2 : Int32)), .unset, .unset, .val (.int (1 : Int32))] [(.int (own_c (PX1) (X)))]))
  refine own_go (fun t k => XS.ifNo X351.here hx rfl (hb hby dC3_2_64) rfl (Jvm.Free.XT.i0_ge_f (own_c_lt hJ)) k) ?_
  show own_G p.tables e below s _ _ _ (T351.setTop (mkF m 67 #[.val (.ref a1), .val (.double x), .second, .val (.int (2 : Int32)), .unset, .unset, .val (.int (1 : Int32))] []))
  refine own_go (fun t k => XS.iinc X351.here hx rfl (hb hby dC3_2_67) rfl (l' := #[.val (.ref a1), .val (.double x), .second, .val (.int (2 : Int32)), .unset, .unset, .val (.int (2 : Int32))]) rfl k) ?_
  show own_G p.tables e below s _ _ _ (T351.setTop (mkF m 70 #[.val (.ref a1), .val (.double x), .second, .val (.int (2 : Int32)), .unset, .unset, .val (.int (2 : Int32))] []))
  refine own_go (fun t k => XS.goto X351.here hx rfl (pc0 := 70) (pc' := 55) rfl (hb hby dC3_2_70) (by decide) (by decide) k) ?_
  show own_G p.tables e below s _ _ _ (T351.setTop (mkF m 55 #[.val (.ref a1), .val (.double x), .second, .val (.int (2 : Int32)), .unset, .unset, .val (.int (2 : Int32))] []))
  refine own_go (fun t k => XS.aloadN X351.here hx rfl (hb hby dC3_2_55) rfl rfl k) ?_
  show own_G p.tables e below s _ _ _ (T351.setTop (mkF m 56 #[.val (.ref a1), .val (.double x), .second, .val (.int (2 : Int32)), .unset, .unset, .val (.int (2 : Int32))] [(.ref a1)]))
  obtain ⟨T353, X353, e353, st353⟩ := getF X351 hx hZ hown (host := "") (Or.inl (hw _ (List.mem_of_getElem? (i := 16) rfl))) Via.refl e351 F1 (g := (mkF m 56 #[.val (.ref a1), .val (.double x), .second, .val (.int (2 : Int32)), .unset, .unset, .val (.int (2 : Int32))] [(.ref a1)])) rfl rfl (hb hby dC3_2_56)
  refine own_go st353 ?_
  show own_G p.tables e below s _ _ _ (T353.setTop (mkF m 59 #[.val (.ref a1), .val (.double x), .second, .val (.int (2 : Int32)), .unset, .unset, .val (.int (2 : Int32))] [(.ref xa)]))
  refine own_go (fun t k => XS.iload X353.here hx rfl (hb hby dC3_2_59) rfl k) ?_
  show own_G p.tables e below s _ _ _ (T353.setTop (mkF m 61 #[.val (.ref a1), .val (.double x), .second, .val (.int (2 : Int32)), .unset, .unset, .val (.int (2 : Int32))] [(.int (2 : Int32)), (.ref xa)]))
  obtain ⟨cl354, Ar354, q354, S354, NN354, HH354, GG354⟩ := id V1
  have hin354 : ¬ ((2 : Int32) < 0 ∨ cl354.slots.size ≤ ((2 : Int32)).toNatClampNeg) := inb_of S354 ⟨by decide, by decide⟩
  have hat354 : cl354.slots[((2 : Int32)).toNatClampNeg]? = some (.double x2) := Has.at HH354 hin354 rfl
  refine own_go (fun t k => X353.daload hx (j := (2 : Int32)) (v := (.double x2)) (by rw [e353]; exact Ar354.1) (State.isArrayOf_alike hZ.alike Ar354.2.1) Ar354.2.2 hin354 hat354 (g := (mkF m 61 #[.val (.ref a1), .val (.double x), .second, .val (.int (2 : Int32)), .unset, .unset, .val (.int (2 : Int32))] [(.int (2 : Int32)), (.ref xa)])) rfl rfl (hb hby dC3_2_61) _ k) ?_
  show own_G p.tables e below s _ _ _ (T353.setTop (mkF m 62 #[.val (.ref a1), .val (.double x), .second, .val (.int (2 : Int32)), .unset, .unset, .val (.int (2 : Int32))] [(.double x2)]))
  refine own_go (fun t k => XS.dloadN X353.here hx rfl (hb hby dC3_2_62) rfl k) ?_
  show own_G p.tables e below s _ _ _ (T353.setTop (mkF m 63 #[.val (.ref a1), .val (.double x), .second, .val (.int (2 : Int32)), .unset, .unset, .val (.int (2 : Int32))] [(.double x), (.double x2)]))
  refine own_go (fun t k => XS.dcmpS X353.here hx rfl (hb hby dC3_2_63) rfl (own_cmpv hx2 hxx) k) ?_
  show own_G p.tables e below s _ _ _ (T353.setTop (mkF m 64 #[.val (.ref a1), .val (.double x), .second, .val (.int (2 : Int32)), .unset, .unset, .val (.int (2 : Int32))] [(.int (own_c (PX2) (X)))]))
  refine own_go (fun t k => XS.ifYes X353.here hx rfl (pc0 := 64) (pc' := 73) rfl (hb hby dC3_2_64) rfl (Jvm.Free.XT.i0_ge_t (own_c_ge hI)) (by decide) (by decide) k) ?_
  show own_G p.tables e below s _ _ _ (T353.setTop (mkF m 73 #[.val (.ref a1), .val (.double x), .second, .val (.int (2 : Int32)), .unset, .unset, .val (.int (2 : Int32))] []))
  refine own_go (fun t k => XS.aloadN X353.here hx rfl (hb hby dC3_2_73) rfl rfl k) ?_
  show own_G p.tables e below s _ _ _ (T353.setTop (mkF m 74 #[.val (.ref a1), .val (.double x), .second, .val (.int (2 : Int32)), .unset, .unset, .val (.int (2 : Int32))] [(.ref a1)]))
  obtain ⟨T355, X355, e355, st355⟩ := getF X353 hx hZ hown (host := "") (Or.inl (hw _ (List.mem_of_getElem? (i := 18) rfl))) Via.refl e353 F2 (g := (mkF m 74 #[.val (.ref a1), .val (.double x), .second, .val (.int (2 : Int32)), .unset, .unset, .val (.int (2 : Int32))] [(.ref a1)])) rfl rfl (hb hby dC3_2_74)
  refine own_go st355 ?_
  show own_G p.tables e below s _ _ _ (T355.setTop (mkF m 77 #[.val (.ref a1), .val (.double x), .second, .val (.int (2 : Int32)), .unset, .unset, .val (.int (2 : Int32))] [(.ref ya)]))
  refine own_go (fun t k => XS.iload X355.here hx rfl (hb hby dC3_2_77) rfl k) ?_
  show own_G p.tables e below s _ _ _ (T355.setTop (mkF m 79 #[.val (.ref a1), .val (.double x), .second, .val (.int (2 : Int32)), .unset, .unset, .val (.int (2 : Int32))] [(.int (2 : Int32)), (.ref ya)]))
  refine own_go (fun t k => XS.iconst X355.here hx rfl (hb hby dC3_2_79) k) ?_
  show own_G p.tables e below s _ _ _ (T355.setTop (mkF m 80 #[.val (.ref a1), .val (.double x), .second, .val (.int (2 : Int32)), .unset, .unset, .val (.int (2 : Int32))] [(.int (1 : Int32)), (.int (2 : Int32)), (.ref ya)]))
  refine own_go (fun t k => XS.isub X355.here hx rfl (hb hby dC3_2_80) rfl k) ?_
  show own_G p.tables e below s _ _ _ (T355.setTop (mkF m 81 #[.val (.ref a1), .val (.double x), .second, .val (.int (2 : Int32)), .unset, .unset, .val (.int (2 : Int32))] [(.int (1 : Int32)), (.ref ya)]))
  obtain ⟨cl356, Ar356, q356, S356, NN356, HH356, GG356⟩ := id V2
  have hin356 : ¬ ((1 : Int32) < 0 ∨ cl356.slots.size ≤ ((1 : Int32)).toNatClampNeg) := inb_of S356 ⟨by decide, by decide⟩
  have hat356 : cl356.slots[((1 : Int32)).toNatClampNeg]? = some (.double y1) := Has.at HH356 hin356 rfl
  refine own_go (fun t k => X355.daload hx (j := (1 : Int32)) (v := (.double y1)) (by rw [e355]; exact Ar356.1) (State.isArrayOf_alike hZ.alike Ar356.2.1) Ar356.2.2 hin356 hat356 (g := (mkF m 81 #[.val (.ref a1), .val (.double x), .second, .val (.int (2 : Int32)), .unset, .unset, .val (.int (2 : Int32))] [(.int (1 : Int32)), (.ref ya)])) rfl rfl (hb hby dC3_2_81) _ k) ?_
  show own_G p.tables e below s _ _ _ (T355.setTop (mkF m 82 #[.val (.ref a1), .val (.double x), .second, .val (.int (2 : Int32)), .unset, .unset, .val (.int (2 : Int32))] [(.double y1)]))
  refine own_go (fun t k => XS.aloadN X355.here hx rfl (hb hby dC3_2_82) rfl rfl k) ?_
  show own_G p.tables e below s _ _ _ (T355.setTop (mkF m 83 #[.val (.ref a1), .val (.double x), .second, .val (.int (2 : Int32)), .unset, .unset, .val (.int (2 : Int32))] [(.ref a1), (.double y1)]))
  obtain ⟨T357, X357, e357, st357⟩ := getF X355 hx hZ hown (host := "") (Or.inl (hw _ (List.mem_of_getElem? (i := 18) rfl))) Via.refl e355 F2 (g := (mkF m 83 #[.val (.ref a1), .val (.double x), .second, .val (.int (2 : Int32)), .unset, .unset, .val (.int (2 : Int32))] [(.ref a1), (.double y1)])) rfl rfl (hb hby dC3_2_83)
  refine own_go st357 ?_
  show own_G p.tables e below s _ _ _ (T357.setTop (mkF m 86 #[.val (.ref a1), .val (.double x), .second, .val (.int (2 : Int32)), .unset, .unset, .val (.int (2 : Int32))] [(.ref ya), (.double y1)]))
  refine own_go (fun t k => XS.iload X357.here hx rfl (hb hby dC3_2_86) rfl k) ?_
  show own_G p.tables e below s _ _ _ (T357.setTop (mkF m 88 #[.val (.ref a1), .val (.double x), .second, .val (.int (2 : Int32)), .unset, .unset, .val (.int (2 : Int32))] [(.int (2 : Int32)), (.ref ya), (.double y1)]))
  obtain ⟨cl358, Ar358, q358, S358, NN358, HH358, GG358⟩ := id V2
  have hin358 : ¬ ((2 : Int32) < 0 ∨ cl358.slots.size ≤ ((2 : Int32)).toNatClampNeg) := inb_of S358 ⟨by decide, by decide⟩
  have hat358 : cl358.slots[((2 : Int32)).toNatClampNeg]? = some (.double y2) := Has.at HH358 hin358 rfl
  refine own_go (fun t k => X357.daload hx (j := (2 : Int32)) (v := (.double y2)) (by rw [e357]; exact Ar358.1) (State.isArrayOf_alike hZ.alike Ar358.2.1) Ar358.2.2 hin358 hat358 (g := (mkF m 88 #[.val (.ref a1), .val (.double x), .second, .val (.int (2 : Int32)), .unset, .unset, .val (.int (2 : Int32))] [(.int (2 : Int32)), (.ref ya), (.double y1)])) rfl rfl (hb hby dC3_2_88) _ k) ?_
  show own_G p.tables e below s _ _ _ (T357.setTop (mkF m 89 #[.val (.ref a1), .val (.double x), .second, .val (.int (2 : Int32)), .unset, .unset, .val (.int (2 : Int32))] [(.double y2), (.double y1)]))
  refine own_go (fun t k => XS.aloadN X357.here hx rfl (hb hby dC3_2_89) rfl rfl k) ?_
  show own_G p.tables e below s _ _ _ (T357.setTop (mkF m 90 #[.val (.ref a1), .val (.double x), .second, .val (.int (2 : Int32)), .unset, .unset, .val (.int (2 : Int32))] [(.ref a1), (.double y2), (.double y1)]))
  obtain ⟨T359, X359, e359, st359⟩ := getF X357 hx hZ hown (host := "") (Or.inl (hw _ (List.mem_of_getElem? (i := 18) rfl))) Via.refl e357 F2 (g := (mkF m 90 #[.val (.ref a1), .val (.double x), .second, .val (.int (2 : Int32)), .unset, .unset, .val (.int (2 : Int32))] [(.ref a1), (.double y2), (.double y1)])) rfl rfl (hb hby dC3_2_90)
  refine own_go st359 ?_
  show own_G p.tables e below s _ _ _ (T359.setTop (mkF m 93 #[.val (.ref a1), .val (.double x), .second, .val (.int (2 : Int32)), .unset, .unset, .val (.int (2 : Int32))] [(.ref ya), (.double y2), (.double y1)]))
  refine own_go (fun t k => XS.iload X359.here hx rfl (hb hby dC3_2_93) rfl k) ?_
  show own_G p.tables e below s _ _ _ (T359.setTop (mkF m 95 #[.val (.ref a1), .val (.double x), .second, .val (.int (2 : Int32)), .unset, .unset, .val (.int (2 : Int32))] [(.int (2 : Int32)), (.ref ya), (.double y2), (.double y1)]))
  refine own_go (fun t k => XS.iconst X359.here hx rfl (hb hby dC3_2_95) k) ?_
  show own_G p.tables e below s _ _ _ (T359.setTop (mkF m 96 #[.val (.ref a1), .val (.double x), .second, .val (.int (2 : Int32)), .unset, .unset, .val (.int (2 : Int32))] [(.int (1 : Int32)), (.int (2 : Int32)), (.ref ya), (.double y2), (.double y1)]))
  refine own_go (fun t k => XS.isub X359.here hx rfl (hb hby dC3_2_96) rfl k) ?_
  show own_G p.tables e below s _ _ _ (T359.setTop (mkF m 97 #[.val (.ref a1), .val (.double x), .second, .val (.int (2 : Int32)), .unset, .unset, .val (.int (2 : Int32))] [(.int (1 : Int32)), (.ref ya), (.double y2), (.double y1)]))
  obtain ⟨cl360, Ar360, q360, S360, NN360, HH360, GG360⟩ := id V2
  have hin360 : ¬ ((1 : Int32) < 0 ∨ cl360.slots.size ≤ ((1 : Int32)).toNatClampNeg) := inb_of S360 ⟨by decide, by decide⟩
  have hat360 : cl360.slots[((1 : Int32)).toNatClampNeg]? = some (.double y1) := Has.at HH360 hin360 rfl
  refine own_go (fun t k => X359.daload hx (j := (1 : Int32)) (v := (.double y1)) (by rw [e359]; exact Ar360.1) (State.isArrayOf_alike hZ.alike Ar360.2.1) Ar360.2.2 hin360 hat360 (g := (mkF m 97 #[.val (.ref a1), .val (.double x), .second, .val (.int (2 : Int32)), .unset, .unset, .val (.int (2 : Int32))] [(.int (1 : Int32)), (.ref ya), (.double y2), (.double y1)])) rfl rfl (hb hby dC3_2_97) _ k) ?_
  show own_G p.tables e below s _ _ _ (T359.setTop (mkF m 98 #[.val (.ref a1), .val (.double x), .second, .val (.int (2 : Int32)), .unset, .unset, .val (.int (2 : Int32))] [(.double y1), (.double y2), (.double y1)]))
  obtain ⟨d361, hd361⟩ : ∃ z, Jvm.FP.dsub y2 y1 = z := ⟨_, rfl⟩
  have D361 : own_E (PY2 - PY1) d361 := by rw [← hd361]; exact own_sub hy2 hy1 b1
  refine own_go (fun t k => XS.dsubS X359.here hx rfl (hb hby dC3_2_98) rfl (by rw [hd361]; exact own_num D361) hd361 k) ?_
  show own_G p.tables e below s _ _ _ (T359.setTop (mkF m 99 #[.val (.ref a1), .val (.double x), .second, .val (.int (2 : Int32)), .unset, .unset, .val (.int (2 : Int32))] [(.double d361), (.double y1)]))
  refine own_go (fun t k => XS.dloadN X359.here hx rfl (hb hby dC3_2_99) rfl k) ?_
  show own_G p.tables e below s _ _ _ (T359.setTop (mkF m 100 #[.val (.ref a1), .val (.double x), .second, .val (.int (2 : Int32)), .unset, .unset, .val (.int (2 : Int32))] [(.double x), (.double d361), (.double y1)]))
  refine own_go (fun t k => XS.aloadN X359.here hx rfl (hb hby dC3_2_100) rfl rfl k) ?_
  show own_G p.tables e below s _ _ _ (T359.setTop (mkF m 101 #[.val (.ref a1), .val (.double x), .second, .val (.int (2 : Int32)), .unset, .unset, .val (.int (2 : Int32))] [(.ref a1), (.double x), (.double d361), (.double y1)]))
  obtain ⟨T362, X362, e362, st362⟩ := getF X359 hx hZ hown (host := "") (Or.inl (hw _ (List.mem_of_getElem? (i := 16) rfl))) Via.refl e359 F1 (g := (mkF m 101 #[.val (.ref a1), .val (.double x), .second, .val (.int (2 : Int32)), .unset, .unset, .val (.int (2 : Int32))] [(.ref a1), (.double x), (.double d361), (.double y1)])) rfl rfl (hb hby dC3_2_101)
  refine own_go st362 ?_
  show own_G p.tables e below s _ _ _ (T362.setTop (mkF m 104 #[.val (.ref a1), .val (.double x), .second, .val (.int (2 : Int32)), .unset, .unset, .val (.int (2 : Int32))] [(.ref xa), (.double x), (.double d361), (.double y1)]))
  refine own_go (fun t k => XS.iload X362.here hx rfl (hb hby dC3_2_104) rfl k) ?_
  show own_G p.tables e below s _ _ _ (T362.setTop (mkF m 106 #[.val (.ref a1), .val (.double x), .second, .val (.int (2 : Int32)), .unset, .unset, .val (.int (2 : Int32))] [(.int (2 : Int32)), (.ref xa), (.double x), (.double d361), (.double y1)]))
  refine own_go (fun t k => XS.iconst X362.here hx rfl (hb hby dC3_2_106) k) ?_
  show own_G p.tables e below s _ _ _ (T362.setTop (mkF m 107 #[.val (.ref a1), .val (.double x), .second, .val (.int (2 : Int32)), .unset, .unset, .val (.int (2 : Int32))] [(.int (1 : Int32)), (.int (2 : Int32)), (.ref xa), (.double x), (.double d361), (.double y1)]))
  refine own_go (fun t k => XS.isub X362.here hx rfl (hb hby dC3_2_107) rfl k) ?_
  show own_G p.tables e below s _ _ _ (T362.setTop (mkF m 108 #[.val (.ref a1), .val (.double x), .second, .val (.int (2 : Int32)), .unset, .unset, .val (.int (2 : Int32))] [(.int (1 : Int32)), (.ref xa), (.double x), (.double d361), (.double y1)]))
  obtain ⟨cl363, Ar363, q363, S363, NN363, HH363, GG363⟩ := id V1
  have hin363 : ¬ ((1 : Int32) < 0 ∨ cl363.slots.size ≤ ((1 : Int32)).toNatClampNeg) := inb_of S363 ⟨by decide, by decide⟩
  have hat363 : cl363.slots[((1 : Int32)).toNatClampNeg]? = some (.double x1) := Has.at HH363 hin363 rfl
  refine own_go (fun t k => X362.daload hx (j := (1 : Int32)) (v := (.double x1)) (by rw [e362]; exact Ar363.1) (State.isArrayOf_alike hZ.alike Ar363.2.1) Ar363.2.2 hin363 hat363 (g := (mkF m 108 #[.val (.ref a1), .val (.double x), .second, .val (.int (2 : Int32)), .unset, .unset, .val (.int (2 : Int32))] [(.int (1 : Int32)), (.ref xa), (.double x), (.double d361), (.double y1)])) rfl rfl (hb hby dC3_2_108) _ k) ?_
  show own_G p.tables e below s _ _ _ (T362.setTop (mkF m 109 #[.val (.ref a1), .val (.double x), .second, .val (.int (2 : Int32)), .unset, .unset, .val (.int (2 : Int32))] [(.double x1), (.double x), (.double d361), (.double y1)]))
  obtain ⟨d364, hd364⟩ : ∃ z, Jvm.FP.dsub x x1 = z := ⟨_, rfl⟩
  have D364 : own_E (X - PX1) d364 := by rw [← hd364]; exact own_sub hxx hx1 b2
  refine own_go (fun t k => XS.dsubS X362.here hx rfl (hb hby dC3_2_109) rfl (by rw [hd364]; exact own_num D364) hd364 k) ?_
  show own_G p.tables e below s _ _ _ (T362.setTop (mkF m 110 #[.val (.ref a1), .val (.double x), .second, .val (.int (2 : Int32)), .unset, .unset, .val (.int (2 : Int32))] [(.double d364), (.double d361), (.double y1)]))
  obtain ⟨d365, hd365⟩ : ∃ z, Jvm.FP.dmul d361 d364 = z := ⟨_, rfl⟩
  have D365 : own_E (P) d365 := by rw [← hd365]; exact own_mul D361 D364 hP b3
  refine own_go (fun t k => XS.dmulS X362.here hx rfl (hb hby dC3_2_110) rfl (by rw [hd365]; exact own_num D365) hd365 k) ?_
  show own_G p.tables e below s _ _ _ (T362.setTop (mkF m 111 #[.val (.ref a1), .val (.double x), .second, .val (.int (2 : Int32)), .unset, .unset, .val (.int (2 : Int32))] [(.double d365), (.double y1)]))
  refine own_go (fun t k => XS.aloadN X362.here hx rfl (hb hby dC3_2_111) rfl rfl k) ?_
  show own_G p.tables e below s _ _ _ (T362.setTop (mkF m 112 #[.val (.ref a1), .val (.double x), .second, .val (.int (2 : Int32)), .unset, .unset, .val (.int (2 : Int32))] [(.ref a1), (.double d365), (.double y1)]))
  obtain ⟨T366, X366, e366, st366⟩ := getF X362 hx hZ hown (host := "") (Or.inl (hw _ (List.mem_of_getElem? (i := 16) rfl))) Via.refl e362 F1 (g := (mkF m 112 #[.val (.ref a1), .val (.double x), .second, .val (.int (2 : Int32)), .unset, .unset, .val (.int (2 : Int32))] [(.ref a1), (.double d365), (.double y1)])) rfl rfl (hb hby dC3_2_112)
  refine own_go st366 ?_
  show own_G p.tables e below s _ _ _ (T366.setTop (mkF m 115 #[.val (.ref a1), .val (.double x), .second, .val (.int (2 : Int32)), .unset, .unset, .val (.int (2 : Int32))] [(.ref xa), (.double d365), (.double y1)]))
  refine own_go (fun t k => XS.iload X366.here hx rfl (hb hby dC3_2_115) rfl k) ?_
  show own_G p.tables e below s _ _ _ (T366.setTop (mkF m 117 #[.val (.ref a1), .val (.double x), .second, .val (.int (2 : Int32)), .unset, .unset, .val (.int (2 : Int32))] [(.int (2 : Int32)), (.ref xa), (.double d365), (.double y1)]))
  obtain ⟨cl367, Ar367, q367, S367, NN367, HH367, GG367⟩ := id V1
  have hin367 : ¬ ((2 : Int32) < 0 ∨ cl367.slots.size ≤ ((2 : Int32)).toNatClampNeg) := inb_of S367 ⟨by decide, by decide⟩
  have hat367 : cl367.slots[((2 : Int32)).toNatClampNeg]? = some (.double x2) := Has.at HH367 hin367 rfl
  refine own_go (fun t k => X366.daload hx (j := (2 : Int32)) (v := (.double x2)) (by rw [e366]; exact Ar367.1) (State.isArrayOf_alike hZ.alike Ar367.2.1) Ar367.2.2 hin367 hat367 (g := (mkF m 117 #[.val (.ref a1), .val (.double x), .second, .val (.int (2 : Int32)), .unset, .unset, .val (.int (2 : Int32))] [(.int (2 : Int32)), (.ref xa), (.double d365), (.double y1)])) rfl rfl (hb hby dC3_2_117) _ k) ?_
  show own_G p.tables e below s _ _ _ (T366.setTop (mkF m 118 #[.val (.ref a1), .val (.double x), .second, .val (.int (2 : Int32)), .unset, .unset, .val (.int (2 : Int32))] [(.double x2), (.double d365), (.double y1)]))
  refine own_go (fun t k => XS.aloadN X366.here hx rfl (hb hby dC3_2_118) rfl rfl k) ?_
  show own_G p.tables e below s _ _ _ (T366.setTop (mkF m 119 #[.val (.ref a1), .val (.double x), .second, .val (.int (2 : Int32)), .unset, .unset, .val (.int (2 : Int32))] [(.ref a1), (.double x2), (.double d365), (.double y1)]))
  obtain ⟨T368, X368, e368, st368⟩ := getF X366 hx hZ hown (host := "") (Or.inl (hw _ (List.mem_of_getElem? (i := 16) rfl))) Via.refl e366 F1 (g := (mkF m 119 #[.val (.ref a1), .val (.double x), .second, .val (.int (2 : Int32)), .unset, .unset, .val (.int (2 : Int32))] [(.ref a1), (.double x2), (.double d365), (.double y1)])) rfl rfl (hb hby dC3_2_119)
  refine own_go st368 ?_
  show own_G p.tables e below s _ _ _ (T368.setTop (mkF m 122 #[.val (.ref a1), .val (.double x), .second, .val (.int (2 : Int32)), .unset, .unset, .val (.int (2 : Int32))] [(.ref xa), (.double x2), (.double d365), (.double y1)]))
  refine own_go (fun t k => XS.iload X368.here hx rfl (hb hby dC3_2_122) rfl k) ?_
  show own_G p.tables e below s _ _ _ (T368.setTop (mkF m 124 #[.val (.ref a1), .val (.double x), .second, .val (.int (2 : Int32)), .unset, .unset, .val (.int (2 : Int32))] [(.int (2 : Int32)), (.ref xa), (.double x2), (.double d365), (.double y1)]))
  refine own_go (fun t k => XS.iconst X368.here hx rfl (hb hby dC3_2_124) k) ?_
  show own_G p.tables e below s _ _ _ (T368.setTop (mkF m 125 #[.val (.ref a1), .val (.double x), .second, .val (.int (2 : Int32)), .unset, .unset, .val (.int (2 : Int32))] [(.int (1 : Int32)), (.int (2 : Int32)), (.ref xa), (.double x2), (.double d365), (.double y1)]))
  refine own_go (fun t k => XS.isub X368.here hx rfl (hb hby dC3_2_125) rfl k) ?_
  show own_G p.tables e below s _ _ _ (T368.setTop (mkF m 126 #[.val (.ref a1), .val (.double x), .second, .val (.int (2 : Int32)), .unset, .unset, .val (.int (2 : Int32))] [(.int (1 : Int32)), (.ref xa), (.double x2), (.double d365), (.double y1)]))
  obtain ⟨cl369, Ar369, q369, S369, NN369, HH369, GG369⟩ := id V1
  have hin369 : ¬ ((1 : Int32) < 0 ∨ cl369.slots.size ≤ ((1 : Int32)).toNatClampNeg) := inb_of S369 ⟨by decide, by decide⟩
  have hat369 : cl369.slots[((1 : Int32)).toNatClampNeg]? = some (.double x1) := Has.at HH369 hin369 rfl
  refine own_go (fun t k => X368.daload hx (j := (1 : Int32)) (v := (.double x1)) (by rw [e368]; exact Ar369.1) (State.isArrayOf_alike hZ.alike Ar369.2.1) Ar369.2.2 hin369 hat369 (g := (mkF m 126 #[.val (.ref a1), .val (.double x), .second, .val (.int (2 : Int32)), .unset, .unset, .val (.int (2 : Int32))] [(.int (1 : Int32)), (.ref xa), (.double x2), (.double d365), (.double y1)])) rfl rfl (hb hby dC3_2_126) _ k) ?_
  show own_G p.tables e below s _ _ _ (T368.setTop (mkF m 127 #[.val (.ref a1), .val (.double x), .second, .val (.int (2 : Int32)), .unset, .unset, .val (.int (2 : Int32))] [(.double x1), (.double x2), (.double d365), (.double y1)]))
  obtain ⟨d370, hd370⟩ : ∃ z, Jvm.FP.dsub x2 x1 = z := ⟨_, rfl⟩
  have D370 : own_E (PX2 - PX1) d370 := by rw [← hd370]; exact own_sub hx2 hx1 b4
  refine own_go (fun t k => XS.dsubS X368.here hx rfl (hb hby dC3_2_127) rfl (by rw [hd370]; exact own_num D370) hd370 k) ?_
  show own_G p.tables e below s _ _ _ (T368.setTop (mkF m 128 #[.val (.ref a1), .val (.double x), .second, .val (.int (2 : Int32)), .unset, .unset, .val (.int (2 : Int32))] [(.double d370), (.double d365), (.double y1)]))
  obtain ⟨d371, hd371⟩ : ∃ z, Jvm.FP.ddiv d365 d370 = z := ⟨_, rfl⟩
  have D371 : own_E (T) d371 := by rw [← hd371]; exact own_div D365 D370 hne hT b5
  refine own_go (fun t k => XS.ddivS X368.here hx rfl (hb hby dC3_2_128) rfl (by rw [hd371]; exact own_num D371) hd371 k) ?_
  show own_G p.tables e below s _ _ _ (T368.setTop (mkF m 129 #[.val (.ref a1), .val (.double x), .second, .val (.int (2 : Int32)), .unset, .unset, .val (.int (2 : Int32))] [(.double d371), (.double y1)]))
  obtain ⟨d372, hd372⟩ : ∃ z, Jvm.FP.dadd y1 d371 = z := ⟨_, rfl⟩
  have D372 : own_E (PY1 + T) d372 := by rw [← hd372]; exact own_add hy1 D371 b6
  refine own_go (fun t k => XS.daddS X368.here hx rfl (hb hby dC3_2_129) rfl (by rw [hd372]; exact own_num D372) hd372 k) ?_
  show own_G p.tables e below s _ _ _ (T368.setTop (mkF m 130 #[.val (.ref a1), .val (.double x), .second, .val (.int (2 : Int32)), .unset, .unset, .val (.int (2 : Int32))] [(.double d372)]))
  refine own_go (fun t k => XS.dstore X368.here hx rfl (hb hby dC3_2_130) rfl (l' := #[.val (.ref a1), .val (.double x), .second, .val (.int (2 : Int32)), .val (.double d372), .second, .val (.int (2 : Int32))]) rfl k) ?_
  show own_G p.tables e below s _ _ _ (T368.setTop (mkF m 132 #[.val (.ref a1), .val (.double x), .second, .val (.int (2 : Int32)), .val (.double d372), .second, .val (.int (2 : Int32))] []))
  refine own_go (fun t k => XS.dload X368.here hx rfl (hb hby dC3_2_132) rfl k) ?_
  show own_G p.tables e below s _ _ _ (T368.setTop (mkF m 134 #[.val (.ref a1), .val (.double x), .second, .val (.int (2 : Int32)), .val (.double d372), .second, .val (.int (2 : Int32))] [(.double d372)]))
  exact own_retD X368 hx hlk Bd.returns (hb hby dC3_2_134) (by rw [e368]; exact ⟨⟨_, rfl, D372⟩, N0, rfl⟩) (by decide) (by decide)
theorem pd___D_Lcom_example_options_into_arguments_optionsintoarguments_quality_Curve_ : parseMethodDescriptor "([D)Lcom/example/options_into_arguments/optionsintoarguments/quality/Curve;" = some ⟨[(.array .double)], some (.object "com/example/options_into_arguments/optionsintoarguments/quality/Curve")⟩ := by decide +kernel
theorem pd__D_D : parseMethodDescriptor "(D)D" = some ⟨[.double], some .double⟩ := by decide +kernel
theorem pn_com_example_options_into_arguments_optionsintoarguments_quality_CurveThroughPinLaw : plainName "com/example/options_into_arguments/optionsintoarguments/quality/CurveThroughPinLaw" = true := by first | (simp [plainName, overriddenIn]; done) | decide +kernel
theorem ef_0 (m : MethodId) (x0 : Int32) (x1 : Int32) (x2 : Int32) (x3 : Int32) (x4 : Int32) (x5 : Int32) : entryFrame m #[(.int x0), (.int x1), (.int x2), (.int x3), (.int x4), (.int x5)] maxLocals = mkF m 0 #[.val (.int x0), .val (.int x1), .val (.int x2), .val (.int x3), .val (.int x4), .val (.int x5), .unset, .unset, .unset, .unset, .unset, .unset, .unset, .unset, .unset, .unset, .unset, .unset, .unset, .unset, .unset, .unset, .unset, .unset, .unset, .unset, .unset, .unset, .unset, .unset, .unset, .unset, .unset] [] := by first | (simp [entryFrame, mkF, argsToLocals, Value.category, maxLocals]; done) | rfl
def Q0 (Z : State) (p1 p2 p3 p4 p5 p6 : Int32) (h0 : Heap) (n0 : Nat) (v : Option Value) (h : Heap) (L : List Loc) : Prop := v = some (.int 1) ∧ Fr n0 L
set_option maxRecDepth 65536 in
set_option maxHeartbeats 40000000 in
theorem rm0 (l : Launch) (Z : State) (a0 : Array Value) (hw : ∀ d ∈ tables_1, d.before a0 Z = true) (ws : List Jvm.Cond) (p1 p2 p3 p4 p5 p6 : Int32) (h0 : Heap) (n0 : Nat) (Z0 : n0 ≤ h0.size)  :
    MetFree l x (head1 (Jvm.Cond.code x code maxLocals ret :: ws) room_1) (fun a U => a = #[(.int p1), (.int p2), (.int p3), (.int p4), (.int p5), (.int p6)] ∧ Z.Warmed39 U.vm ∧ U.heap = h0) (fun _ _ _ _ _ => True) (fun _ U o U' => ∃ v L, o = .returned v ∧ Q0 Z p1 p2 p3 p4 p5 p6 h0 n0 v U'.heap L ∧ FrameEnd U o U' L room_1.cells room_1.slots) := by
  refine MetFree.of_bodySF (plainFor_of_name pn_com_example_options_into_arguments_optionsintoarguments_quality_CurveThroughPinLaw) hisR ?_
  intro p e s m args below meth c s₁ Bd hml0 hP hK
  obtain ⟨rfl, hZ, hh⟩ := hP
  have hx := Bd.exec
  have hby := Bd.bytes
  have hlk : meth.locks = false := BodyLoose.notSynchronized Bd
  have hml : c.maxLocals = 33 := hml0
  have hown : s.vm.findClass "com/example/options_into_arguments/optionsintoarguments/quality/CurveThroughPinLaw" = some m.cls := findClass_of_methodNamed Bd.named
  have hnm := (name_of_methodNamed Bd.named Bd.method).1
  have X0 : Stand p l e room_1 s m #[(.int p1), (.int p2), (.int p3), (.int p4), (.int p5), (.int p6)] below meth c s₁ [] 0 0 := Stand.of_body Bd
  have e0 : s₁.heap = h0 := by rw [← hh, Bd.state]; rfl
  have N0 := Fr.nil n0
  show own_G p.tables e below s (Q0 Z p1 p2 p3 p4 p5 p6 h0 n0) room_1.cells room_1.slots (s₁.setTop (entryFrame m #[(.int p1), (.int p2), (.int p3), (.int p4), (.int p5), (.int p6)] maxLocals))
  refine own_go (fun t k => castTop (ef_0 m p1 p2 p3 p4 p5 p6) k) ?_
  show own_G p.tables e below s _ _ _ (s₁.setTop (mkF m 0 #[.val (.int p1), .val (.int p2), .val (.int p3), .val (.int p4), .val (.int p5), .val (.int p6), .unset, .unset, .unset, .unset, .unset, .unset, .unset, .unset, .unset, .unset, .unset, .unset, .unset, .unset, .unset, .unset, .unset, .unset, .unset, .unset, .unset, .unset, .unset, .unset, .unset, .unset, .unset] []))
  refine own_go (fun t k => XS.iloadN X0.here hx rfl (hb hby at_0) rfl k) ?_
  show own_G p.tables e below s _ _ _ (s₁.setTop (mkF m 1 #[.val (.int p1), .val (.int p2), .val (.int p3), .val (.int p4), .val (.int p5), .val (.int p6), .unset, .unset, .unset, .unset, .unset, .unset, .unset, .unset, .unset, .unset, .unset, .unset, .unset, .unset, .unset, .unset, .unset, .unset, .unset, .unset, .unset, .unset, .unset, .unset, .unset, .unset, .unset] [(.int p2)]))
  refine own_go (fun t k => XS.bipush X0.here hx rfl (hb hby at_1) k) ?_
  show own_G p.tables e below s _ _ _ (s₁.setTop (mkF m 3 #[.val (.int p1), .val (.int p2), .val (.int p3), .val (.int p4), .val (.int p5), .val (.int p6), .unset, .unset, .unset, .unset, .unset, .unset, .unset, .unset, .unset, .unset, .unset, .unset, .unset, .unset, .unset, .unset, .unset, .unset, .unset, .unset, .unset, .unset, .unset, .unset, .unset, .unset, .unset] [(.int (7 : Int32)), (.int p2)]))
  refine own_go (fun t k => XS.iand X0.here hx rfl (hb hby at_3) rfl k) ?_
  show own_G p.tables e below s _ _ _ (s₁.setTop (mkF m 4 #[.val (.int p1), .val (.int p2), .val (.int p3), .val (.int p4), .val (.int p5), .val (.int p6), .unset, .unset, .unset, .unset, .unset, .unset, .unset, .unset, .unset, .unset, .unset, .unset, .unset, .unset, .unset, .unset, .unset, .unset, .unset, .unset, .unset, .unset, .unset, .unset, .unset, .unset, .unset] [(.int (p2 &&& (7 : Int32)))]))
  refine own_go (fun t k => XS.iconst X0.here hx rfl (hb hby at_4) k) ?_
  show own_G p.tables e below s _ _ _ (s₁.setTop (mkF m 5 #[.val (.int p1), .val (.int p2), .val (.int p3), .val (.int p4), .val (.int p5), .val (.int p6), .unset, .unset, .unset, .unset, .unset, .unset, .unset, .unset, .unset, .unset, .unset, .unset, .unset, .unset, .unset, .unset, .unset, .unset, .unset, .unset, .unset, .unset, .unset, .unset, .unset, .unset, .unset] [(.int (1 : Int32)), (.int (p2 &&& (7 : Int32)))]))
  refine own_go (fun t k => XS.iadd X0.here hx rfl (hb hby at_5) rfl k) ?_
  show own_G p.tables e below s _ _ _ (s₁.setTop (mkF m 6 #[.val (.int p1), .val (.int p2), .val (.int p3), .val (.int p4), .val (.int p5), .val (.int p6), .unset, .unset, .unset, .unset, .unset, .unset, .unset, .unset, .unset, .unset, .unset, .unset, .unset, .unset, .unset, .unset, .unset, .unset, .unset, .unset, .unset, .unset, .unset, .unset, .unset, .unset, .unset] [(.int ((p2 &&& (7 : Int32)) + (1 : Int32)))]))
  have hg1 := own_g p2
  obtain ⟨g1, hg1'⟩ : ∃ z, ((p2 &&& (7 : Int32)) + (1 : Int32)) = z := ⟨_, rfl⟩
  rw [hg1']
  show own_G p.tables e below s _ _ _ (s₁.setTop (mkF m 6 #[.val (.int p1), .val (.int p2), .val (.int p3), .val (.int p4), .val (.int p5), .val (.int p6), .unset, .unset, .unset, .unset, .unset, .unset, .unset, .unset, .unset, .unset, .unset, .unset, .unset, .unset, .unset, .unset, .unset, .unset, .unset, .unset, .unset, .unset, .unset, .unset, .unset, .unset, .unset] [(.int g1)]))
  rw [hg1'] at hg1
  refine own_go (fun t k => XS.istore X0.here hx rfl (hb hby at_6) rfl (l' := #[.val (.int p1), .val (.int p2), .val (.int p3), .val (.int p4), .val (.int p5), .val (.int p6), .val (.int g1), .unset, .unset, .unset, .unset, .unset, .unset, .unset, .unset, .unset, .unset, .unset, .unset, .unset, .unset, .unset, .unset, .unset, .unset, .unset, .unset, .unset, .unset, .unset, .unset, .unset, .unset]) rfl k) ?_
  show own_G p.tables e below s _ _ _ (s₁.setTop (mkF m 8 #[.val (.int p1), .val (.int p2), .val (.int p3), .val (.int p4), .val (.int p5), .val (.int p6), .val (.int g1), .unset, .unset, .unset, .unset, .unset, .unset, .unset, .unset, .unset, .unset, .unset, .unset, .unset, .unset, .unset, .unset, .unset, .unset, .unset, .unset, .unset, .unset, .unset, .unset, .unset, .unset] []))
  refine own_go (fun t k => XS.iloadN X0.here hx rfl (hb hby at_8) rfl k) ?_
  show own_G p.tables e below s _ _ _ (s₁.setTop (mkF m 9 #[.val (.int p1), .val (.int p2), .val (.int p3), .val (.int p4), .val (.int p5), .val (.int p6), .val (.int g1), .unset, .unset, .unset, .unset, .unset, .unset, .unset, .unset, .unset, .unset, .unset, .unset, .unset, .unset, .unset, .unset, .unset, .unset, .unset, .unset, .unset, .unset, .unset, .unset, .unset, .unset] [(.int p2)]))
  refine own_go (fun t k => XS.iconst X0.here hx rfl (hb hby at_9) k) ?_
  show own_G p.tables e below s _ _ _ (s₁.setTop (mkF m 10 #[.val (.int p1), .val (.int p2), .val (.int p3), .val (.int p4), .val (.int p5), .val (.int p6), .val (.int g1), .unset, .unset, .unset, .unset, .unset, .unset, .unset, .unset, .unset, .unset, .unset, .unset, .unset, .unset, .unset, .unset, .unset, .unset, .unset, .unset, .unset, .unset, .unset, .unset, .unset, .unset] [(.int (3 : Int32)), (.int p2)]))
  refine own_go (fun t k => XS.iushr X0.here hx rfl (hb hby at_10) rfl k) ?_
  show own_G p.tables e below s _ _ _ (s₁.setTop (mkF m 11 #[.val (.int p1), .val (.int p2), .val (.int p3), .val (.int p4), .val (.int p5), .val (.int p6), .val (.int g1), .unset, .unset, .unset, .unset, .unset, .unset, .unset, .unset, .unset, .unset, .unset, .unset, .unset, .unset, .unset, .unset, .unset, .unset, .unset, .unset, .unset, .unset, .unset, .unset, .unset, .unset] [(.int ((p2.toUInt32 >>> ((3 : Int32) &&& 31).toUInt32).toInt32))]))
  refine own_go (fun t k => XS.bipush X0.here hx rfl (hb hby at_11) k) ?_
  show own_G p.tables e below s _ _ _ (s₁.setTop (mkF m 13 #[.val (.int p1), .val (.int p2), .val (.int p3), .val (.int p4), .val (.int p5), .val (.int p6), .val (.int g1), .unset, .unset, .unset, .unset, .unset, .unset, .unset, .unset, .unset, .unset, .unset, .unset, .unset, .unset, .unset, .unset, .unset, .unset, .unset, .unset, .unset, .unset, .unset, .unset, .unset, .unset] [(.int (7 : Int32)), (.int ((p2.toUInt32 >>> ((3 : Int32) &&& 31).toUInt32).toInt32))]))
  refine own_go (fun t k => XS.iand X0.here hx rfl (hb hby at_13) rfl k) ?_
  show own_G p.tables e below s _ _ _ (s₁.setTop (mkF m 14 #[.val (.int p1), .val (.int p2), .val (.int p3), .val (.int p4), .val (.int p5), .val (.int p6), .val (.int g1), .unset, .unset, .unset, .unset, .unset, .unset, .unset, .unset, .unset, .unset, .unset, .unset, .unset, .unset, .unset, .unset, .unset, .unset, .unset, .unset, .unset, .unset, .unset, .unset, .unset, .unset] [(.int (((p2.toUInt32 >>> ((3 : Int32) &&& 31).toUInt32).toInt32) &&& (7 : Int32)))]))
  refine own_go (fun t k => XS.iconst X0.here hx rfl (hb hby at_14) k) ?_
  show own_G p.tables e below s _ _ _ (s₁.setTop (mkF m 15 #[.val (.int p1), .val (.int p2), .val (.int p3), .val (.int p4), .val (.int p5), .val (.int p6), .val (.int g1), .unset, .unset, .unset, .unset, .unset, .unset, .unset, .unset, .unset, .unset, .unset, .unset, .unset, .unset, .unset, .unset, .unset, .unset, .unset, .unset, .unset, .unset, .unset, .unset, .unset, .unset] [(.int (1 : Int32)), (.int (((p2.toUInt32 >>> ((3 : Int32) &&& 31).toUInt32).toInt32) &&& (7 : Int32)))]))
  refine own_go (fun t k => XS.iadd X0.here hx rfl (hb hby at_15) rfl k) ?_
  show own_G p.tables e below s _ _ _ (s₁.setTop (mkF m 16 #[.val (.int p1), .val (.int p2), .val (.int p3), .val (.int p4), .val (.int p5), .val (.int p6), .val (.int g1), .unset, .unset, .unset, .unset, .unset, .unset, .unset, .unset, .unset, .unset, .unset, .unset, .unset, .unset, .unset, .unset, .unset, .unset, .unset, .unset, .unset, .unset, .unset, .unset, .unset, .unset] [(.int ((((p2.toUInt32 >>> ((3 : Int32) &&& 31).toUInt32).toInt32) &&& (7 : Int32)) + (1 : Int32)))]))
  have hg2 := own_g ((p2.toUInt32 >>> ((3 : Int32) &&& 31).toUInt32).toInt32)
  obtain ⟨g2, hg2'⟩ : ∃ z, ((((p2.toUInt32 >>> ((3 : Int32) &&& 31).toUInt32).toInt32) &&& (7 : Int32)) + (1 : Int32)) = z := ⟨_, rfl⟩
  rw [hg2']
  show own_G p.tables e below s _ _ _ (s₁.setTop (mkF m 16 #[.val (.int p1), .val (.int p2), .val (.int p3), .val (.int p4), .val (.int p5), .val (.int p6), .val (.int g1), .unset, .unset, .unset, .unset, .unset, .unset, .unset, .unset, .unset, .unset, .unset, .unset, .unset, .unset, .unset, .unset, .unset, .unset, .unset, .unset, .unset, .unset, .unset, .unset, .unset, .unset] [(.int g2)]))
  rw [hg2'] at hg2
  refine own_go (fun t k => XS.istore X0.here hx rfl (hb hby at_16) rfl (l' := #[.val (.int p1), .val (.int p2), .val (.int p3), .val (.int p4), .val (.int p5), .val (.int p6), .val (.int g1), .val (.int g2), .unset, .unset, .unset, .unset, .unset, .unset, .unset, .unset, .unset, .unset, .unset, .unset, .unset, .unset, .unset, .unset, .unset, .unset, .unset, .unset, .unset, .unset, .unset, .unset, .unset]) rfl k) ?_
  show own_G p.tables e below s _ _ _ (s₁.setTop (mkF m 18 #[.val (.int p1), .val (.int p2), .val (.int p3), .val (.int p4), .val (.int p5), .val (.int p6), .val (.int g1), .val (.int g2), .unset, .unset, .unset, .unset, .unset, .unset, .unset, .unset, .unset, .unset, .unset, .unset, .unset, .unset, .unset, .unset, .unset, .unset, .unset, .unset, .unset, .unset, .unset, .unset, .unset] []))
  refine own_go (fun t k => XS.iloadN X0.here hx rfl (hb hby at_18) rfl k) ?_
  show own_G p.tables e below s _ _ _ (s₁.setTop (mkF m 19 #[.val (.int p1), .val (.int p2), .val (.int p3), .val (.int p4), .val (.int p5), .val (.int p6), .val (.int g1), .val (.int g2), .unset, .unset, .unset, .unset, .unset, .unset, .unset, .unset, .unset, .unset, .unset, .unset, .unset, .unset, .unset, .unset, .unset, .unset, .unset, .unset, .unset, .unset, .unset, .unset, .unset] [(.int p2)]))
  refine own_go (fun t k => XS.bipush X0.here hx rfl (hb hby at_19) k) ?_
  show own_G p.tables e below s _ _ _ (s₁.setTop (mkF m 21 #[.val (.int p1), .val (.int p2), .val (.int p3), .val (.int p4), .val (.int p5), .val (.int p6), .val (.int g1), .val (.int g2), .unset, .unset, .unset, .unset, .unset, .unset, .unset, .unset, .unset, .unset, .unset, .unset, .unset, .unset, .unset, .unset, .unset, .unset, .unset, .unset, .unset, .unset, .unset, .unset, .unset] [(.int (6 : Int32)), (.int p2)]))
  refine own_go (fun t k => XS.iushr X0.here hx rfl (hb hby at_21) rfl k) ?_
  show own_G p.tables e below s _ _ _ (s₁.setTop (mkF m 22 #[.val (.int p1), .val (.int p2), .val (.int p3), .val (.int p4), .val (.int p5), .val (.int p6), .val (.int g1), .val (.int g2), .unset, .unset, .unset, .unset, .unset, .unset, .unset, .unset, .unset, .unset, .unset, .unset, .unset, .unset, .unset, .unset, .unset, .unset, .unset, .unset, .unset, .unset, .unset, .unset, .unset] [(.int ((p2.toUInt32 >>> ((6 : Int32) &&& 31).toUInt32).toInt32))]))
  refine own_go (fun t k => X0.ldcInt hx hown (mvT hZ (hw _ (List.mem_of_getElem? (i := 0) rfl))) (g := (mkF m 22 #[.val (.int p1), .val (.int p2), .val (.int p3), .val (.int p4), .val (.int p5), .val (.int p6), .val (.int g1), .val (.int g2), .unset, .unset, .unset, .unset, .unset, .unset, .unset, .unset, .unset, .unset, .unset, .unset, .unset, .unset, .unset, .unset, .unset, .unset, .unset, .unset, .unset, .unset, .unset, .unset, .unset] [(.int ((p2.toUInt32 >>> ((6 : Int32) &&& 31).toUInt32).toInt32))])) rfl (hb hby at_22) _ k) ?_
  show own_G p.tables e below s _ _ _ (s₁.setTop (mkF m 24 #[.val (.int p1), .val (.int p2), .val (.int p3), .val (.int p4), .val (.int p5), .val (.int p6), .val (.int g1), .val (.int g2), .unset, .unset, .unset, .unset, .unset, .unset, .unset, .unset, .unset, .unset, .unset, .unset, .unset, .unset, .unset, .unset, .unset, .unset, .unset, .unset, .unset, .unset, .unset, .unset, .unset] [(.int (65535 : Int32)), (.int ((p2.toUInt32 >>> ((6 : Int32) &&& 31).toUInt32).toInt32))]))
  refine own_go (fun t k => XS.iand X0.here hx rfl (hb hby at_24) rfl k) ?_
  show own_G p.tables e below s _ _ _ (s₁.setTop (mkF m 25 #[.val (.int p1), .val (.int p2), .val (.int p3), .val (.int p4), .val (.int p5), .val (.int p6), .val (.int g1), .val (.int g2), .unset, .unset, .unset, .unset, .unset, .unset, .unset, .unset, .unset, .unset, .unset, .unset, .unset, .unset, .unset, .unset, .unset, .unset, .unset, .unset, .unset, .unset, .unset, .unset, .unset] [(.int (((p2.toUInt32 >>> ((6 : Int32) &&& 31).toUInt32).toInt32) &&& (65535 : Int32)))]))
  refine own_go (fun t k => XS.iconst X0.here hx rfl (hb hby at_25) k) ?_
  show own_G p.tables e below s _ _ _ (s₁.setTop (mkF m 26 #[.val (.int p1), .val (.int p2), .val (.int p3), .val (.int p4), .val (.int p5), .val (.int p6), .val (.int g1), .val (.int g2), .unset, .unset, .unset, .unset, .unset, .unset, .unset, .unset, .unset, .unset, .unset, .unset, .unset, .unset, .unset, .unset, .unset, .unset, .unset, .unset, .unset, .unset, .unset, .unset, .unset] [(.int (3 : Int32)), (.int (((p2.toUInt32 >>> ((6 : Int32) &&& 31).toUInt32).toInt32) &&& (65535 : Int32)))]))
  refine own_go (fun t k => iremM X0 hx rfl (hb hby at_26) rfl (by decide) k) ?_
  show own_G p.tables e below s _ _ _ (s₁.setTop (mkF m 27 #[.val (.int p1), .val (.int p2), .val (.int p3), .val (.int p4), .val (.int p5), .val (.int p6), .val (.int g1), .val (.int g2), .unset, .unset, .unset, .unset, .unset, .unset, .unset, .unset, .unset, .unset, .unset, .unset, .unset, .unset, .unset, .unset, .unset, .unset, .unset, .unset, .unset, .unset, .unset, .unset, .unset] [(.int ((((p2.toUInt32 >>> ((6 : Int32) &&& 31).toUInt32).toInt32) &&& (65535 : Int32)) % (3 : Int32)))]))
  refine own_go (fun t k => XS.iconst X0.here hx rfl (hb hby at_27) k) ?_
  show own_G p.tables e below s _ _ _ (s₁.setTop (mkF m 28 #[.val (.int p1), .val (.int p2), .val (.int p3), .val (.int p4), .val (.int p5), .val (.int p6), .val (.int g1), .val (.int g2), .unset, .unset, .unset, .unset, .unset, .unset, .unset, .unset, .unset, .unset, .unset, .unset, .unset, .unset, .unset, .unset, .unset, .unset, .unset, .unset, .unset, .unset, .unset, .unset, .unset] [(.int (1 : Int32)), (.int ((((p2.toUInt32 >>> ((6 : Int32) &&& 31).toUInt32).toInt32) &&& (65535 : Int32)) % (3 : Int32)))]))
  refine own_go (fun t k => XS.iadd X0.here hx rfl (hb hby at_28) rfl k) ?_
  show own_G p.tables e below s _ _ _ (s₁.setTop (mkF m 29 #[.val (.int p1), .val (.int p2), .val (.int p3), .val (.int p4), .val (.int p5), .val (.int p6), .val (.int g1), .val (.int g2), .unset, .unset, .unset, .unset, .unset, .unset, .unset, .unset, .unset, .unset, .unset, .unset, .unset, .unset, .unset, .unset, .unset, .unset, .unset, .unset, .unset, .unset, .unset, .unset, .unset] [(.int (((((p2.toUInt32 >>> ((6 : Int32) &&& 31).toUInt32).toInt32) &&& (65535 : Int32)) % (3 : Int32)) + (1 : Int32)))]))
  have hnn := own_n3 ((p2.toUInt32 >>> ((6 : Int32) &&& 31).toUInt32).toInt32)
  obtain ⟨nn, hnn'⟩ : ∃ z, (((((p2.toUInt32 >>> ((6 : Int32) &&& 31).toUInt32).toInt32) &&& (65535 : Int32)) % (3 : Int32)) + (1 : Int32)) = z := ⟨_, rfl⟩
  rw [hnn']
  show own_G p.tables e below s _ _ _ (s₁.setTop (mkF m 29 #[.val (.int p1), .val (.int p2), .val (.int p3), .val (.int p4), .val (.int p5), .val (.int p6), .val (.int g1), .val (.int g2), .unset, .unset, .unset, .unset, .unset, .unset, .unset, .unset, .unset, .unset, .unset, .unset, .unset, .unset, .unset, .unset, .unset, .unset, .unset, .unset, .unset, .unset, .unset, .unset, .unset] [(.int nn)]))
  rw [hnn'] at hnn
  clear hnn'
  refine own_go (fun t k => XS.istore X0.here hx rfl (hb hby at_29) rfl (l' := #[.val (.int p1), .val (.int p2), .val (.int p3), .val (.int p4), .val (.int p5), .val (.int p6), .val (.int g1), .val (.int g2), .val (.int nn), .unset, .unset, .unset, .unset, .unset, .unset, .unset, .unset, .unset, .unset, .unset, .unset, .unset, .unset, .unset, .unset, .unset, .unset, .unset, .unset, .unset, .unset, .unset, .unset]) rfl k) ?_
  show own_G p.tables e below s _ _ _ (s₁.setTop (mkF m 31 #[.val (.int p1), .val (.int p2), .val (.int p3), .val (.int p4), .val (.int p5), .val (.int p6), .val (.int g1), .val (.int g2), .val (.int nn), .unset, .unset, .unset, .unset, .unset, .unset, .unset, .unset, .unset, .unset, .unset, .unset, .unset, .unset, .unset, .unset, .unset, .unset, .unset, .unset, .unset, .unset, .unset, .unset] []))
  refine own_go (fun t k => XS.iloadN X0.here hx rfl (hb hby at_31) rfl k) ?_
  show own_G p.tables e below s _ _ _ (s₁.setTop (mkF m 32 #[.val (.int p1), .val (.int p2), .val (.int p3), .val (.int p4), .val (.int p5), .val (.int p6), .val (.int g1), .val (.int g2), .val (.int nn), .unset, .unset, .unset, .unset, .unset, .unset, .unset, .unset, .unset, .unset, .unset, .unset, .unset, .unset, .unset, .unset, .unset, .unset, .unset, .unset, .unset, .unset, .unset, .unset] [(.int p3)]))
  refine own_go (fun t k => X0.ldcInt hx hown (mvT hZ (hw _ (List.mem_of_getElem? (i := 1) rfl))) (g := (mkF m 32 #[.val (.int p1), .val (.int p2), .val (.int p3), .val (.int p4), .val (.int p5), .val (.int p6), .val (.int g1), .val (.int g2), .val (.int nn), .unset, .unset, .unset, .unset, .unset, .unset, .unset, .unset, .unset, .unset, .unset, .unset, .unset, .unset, .unset, .unset, .unset, .unset, .unset, .unset, .unset, .unset, .unset, .unset] [(.int p3)])) rfl (hb hby at_32) _ k) ?_
  show own_G p.tables e below s _ _ _ (s₁.setTop (mkF m 34 #[.val (.int p1), .val (.int p2), .val (.int p3), .val (.int p4), .val (.int p5), .val (.int p6), .val (.int g1), .val (.int g2), .val (.int nn), .unset, .unset, .unset, .unset, .unset, .unset, .unset, .unset, .unset, .unset, .unset, .unset, .unset, .unset, .unset, .unset, .unset, .unset, .unset, .unset, .unset, .unset, .unset, .unset] [(.int (2147483647 : Int32)), (.int p3)]))
  refine own_go (fun t k => XS.iand X0.here hx rfl (hb hby at_34) rfl k) ?_
  show own_G p.tables e below s _ _ _ (s₁.setTop (mkF m 35 #[.val (.int p1), .val (.int p2), .val (.int p3), .val (.int p4), .val (.int p5), .val (.int p6), .val (.int g1), .val (.int g2), .val (.int nn), .unset, .unset, .unset, .unset, .unset, .unset, .unset, .unset, .unset, .unset, .unset, .unset, .unset, .unset, .unset, .unset, .unset, .unset, .unset, .unset, .unset, .unset, .unset, .unset] [(.int (p3 &&& (2147483647 : Int32)))]))
  refine own_go (fun t k => XS.iconst X0.here hx rfl (hb hby at_35) k) ?_
  show own_G p.tables e below s _ _ _ (s₁.setTop (mkF m 36 #[.val (.int p1), .val (.int p2), .val (.int p3), .val (.int p4), .val (.int p5), .val (.int p6), .val (.int g1), .val (.int g2), .val (.int nn), .unset, .unset, .unset, .unset, .unset, .unset, .unset, .unset, .unset, .unset, .unset, .unset, .unset, .unset, .unset, .unset, .unset, .unset, .unset, .unset, .unset, .unset, .unset, .unset] [(.int (5 : Int32)), (.int (p3 &&& (2147483647 : Int32)))]))
  refine own_go (fun t k => iremM X0 hx rfl (hb hby at_36) rfl (by decide) k) ?_
  show own_G p.tables e below s _ _ _ (s₁.setTop (mkF m 37 #[.val (.int p1), .val (.int p2), .val (.int p3), .val (.int p4), .val (.int p5), .val (.int p6), .val (.int g1), .val (.int g2), .val (.int nn), .unset, .unset, .unset, .unset, .unset, .unset, .unset, .unset, .unset, .unset, .unset, .unset, .unset, .unset, .unset, .unset, .unset, .unset, .unset, .unset, .unset, .unset, .unset, .unset] [(.int ((p3 &&& (2147483647 : Int32)) % (5 : Int32)))]))
  have hk0 := own_k5 p3
  obtain ⟨k0, hk0'⟩ : ∃ z, ((p3 &&& (2147483647 : Int32)) % (5 : Int32)) = z := ⟨_, rfl⟩
  rw [hk0']
  show own_G p.tables e below s _ _ _ (s₁.setTop (mkF m 37 #[.val (.int p1), .val (.int p2), .val (.int p3), .val (.int p4), .val (.int p5), .val (.int p6), .val (.int g1), .val (.int g2), .val (.int nn), .unset, .unset, .unset, .unset, .unset, .unset, .unset, .unset, .unset, .unset, .unset, .unset, .unset, .unset, .unset, .unset, .unset, .unset, .unset, .unset, .unset, .unset, .unset, .unset] [(.int k0)]))
  rw [hk0'] at hk0
  refine own_go (fun t k => XS.istore X0.here hx rfl (hb hby at_37) rfl (l' := #[.val (.int p1), .val (.int p2), .val (.int p3), .val (.int p4), .val (.int p5), .val (.int p6), .val (.int g1), .val (.int g2), .val (.int nn), .val (.int k0), .unset, .unset, .unset, .unset, .unset, .unset, .unset, .unset, .unset, .unset, .unset, .unset, .unset, .unset, .unset, .unset, .unset, .unset, .unset, .unset, .unset, .unset, .unset]) rfl k) ?_
  show own_G p.tables e below s _ _ _ (s₁.setTop (mkF m 39 #[.val (.int p1), .val (.int p2), .val (.int p3), .val (.int p4), .val (.int p5), .val (.int p6), .val (.int g1), .val (.int g2), .val (.int nn), .val (.int k0), .unset, .unset, .unset, .unset, .unset, .unset, .unset, .unset, .unset, .unset, .unset, .unset, .unset, .unset, .unset, .unset, .unset, .unset, .unset, .unset, .unset, .unset, .unset] []))
  refine own_go (fun t k => XS.iloadN X0.here hx rfl (hb hby at_39) rfl k) ?_
  show own_G p.tables e below s _ _ _ (s₁.setTop (mkF m 40 #[.val (.int p1), .val (.int p2), .val (.int p3), .val (.int p4), .val (.int p5), .val (.int p6), .val (.int g1), .val (.int g2), .val (.int nn), .val (.int k0), .unset, .unset, .unset, .unset, .unset, .unset, .unset, .unset, .unset, .unset, .unset, .unset, .unset, .unset, .unset, .unset, .unset, .unset, .unset, .unset, .unset, .unset, .unset] [(.int p4)]))
  refine own_go (fun t k => X0.ldcInt hx hown (mvT hZ (hw _ (List.mem_of_getElem? (i := 1) rfl))) (g := (mkF m 40 #[.val (.int p1), .val (.int p2), .val (.int p3), .val (.int p4), .val (.int p5), .val (.int p6), .val (.int g1), .val (.int g2), .val (.int nn), .val (.int k0), .unset, .unset, .unset, .unset, .unset, .unset, .unset, .unset, .unset, .unset, .unset, .unset, .unset, .unset, .unset, .unset, .unset, .unset, .unset, .unset, .unset, .unset, .unset] [(.int p4)])) rfl (hb hby at_40) _ k) ?_
  show own_G p.tables e below s _ _ _ (s₁.setTop (mkF m 42 #[.val (.int p1), .val (.int p2), .val (.int p3), .val (.int p4), .val (.int p5), .val (.int p6), .val (.int g1), .val (.int g2), .val (.int nn), .val (.int k0), .unset, .unset, .unset, .unset, .unset, .unset, .unset, .unset, .unset, .unset, .unset, .unset, .unset, .unset, .unset, .unset, .unset, .unset, .unset, .unset, .unset, .unset, .unset] [(.int (2147483647 : Int32)), (.int p4)]))
  refine own_go (fun t k => XS.iand X0.here hx rfl (hb hby at_42) rfl k) ?_
  show own_G p.tables e below s _ _ _ (s₁.setTop (mkF m 43 #[.val (.int p1), .val (.int p2), .val (.int p3), .val (.int p4), .val (.int p5), .val (.int p6), .val (.int g1), .val (.int g2), .val (.int nn), .val (.int k0), .unset, .unset, .unset, .unset, .unset, .unset, .unset, .unset, .unset, .unset, .unset, .unset, .unset, .unset, .unset, .unset, .unset, .unset, .unset, .unset, .unset, .unset, .unset] [(.int (p4 &&& (2147483647 : Int32)))]))
  refine own_go (fun t k => XS.iconst X0.here hx rfl (hb hby at_43) k) ?_
  show own_G p.tables e below s _ _ _ (s₁.setTop (mkF m 44 #[.val (.int p1), .val (.int p2), .val (.int p3), .val (.int p4), .val (.int p5), .val (.int p6), .val (.int g1), .val (.int g2), .val (.int nn), .val (.int k0), .unset, .unset, .unset, .unset, .unset, .unset, .unset, .unset, .unset, .unset, .unset, .unset, .unset, .unset, .unset, .unset, .unset, .unset, .unset, .unset, .unset, .unset, .unset] [(.int (5 : Int32)), (.int (p4 &&& (2147483647 : Int32)))]))
  refine own_go (fun t k => iremM X0 hx rfl (hb hby at_44) rfl (by decide) k) ?_
  show own_G p.tables e below s _ _ _ (s₁.setTop (mkF m 45 #[.val (.int p1), .val (.int p2), .val (.int p3), .val (.int p4), .val (.int p5), .val (.int p6), .val (.int g1), .val (.int g2), .val (.int nn), .val (.int k0), .unset, .unset, .unset, .unset, .unset, .unset, .unset, .unset, .unset, .unset, .unset, .unset, .unset, .unset, .unset, .unset, .unset, .unset, .unset, .unset, .unset, .unset, .unset] [(.int ((p4 &&& (2147483647 : Int32)) % (5 : Int32)))]))
  have hk1 := own_k5 p4
  obtain ⟨k1, hk1'⟩ : ∃ z, ((p4 &&& (2147483647 : Int32)) % (5 : Int32)) = z := ⟨_, rfl⟩
  rw [hk1']
  show own_G p.tables e below s _ _ _ (s₁.setTop (mkF m 45 #[.val (.int p1), .val (.int p2), .val (.int p3), .val (.int p4), .val (.int p5), .val (.int p6), .val (.int g1), .val (.int g2), .val (.int nn), .val (.int k0), .unset, .unset, .unset, .unset, .unset, .unset, .unset, .unset, .unset, .unset, .unset, .unset, .unset, .unset, .unset, .unset, .unset, .unset, .unset, .unset, .unset, .unset, .unset] [(.int k1)]))
  rw [hk1'] at hk1
  refine own_go (fun t k => XS.istore X0.here hx rfl (hb hby at_45) rfl (l' := #[.val (.int p1), .val (.int p2), .val (.int p3), .val (.int p4), .val (.int p5), .val (.int p6), .val (.int g1), .val (.int g2), .val (.int nn), .val (.int k0), .val (.int k1), .unset, .unset, .unset, .unset, .unset, .unset, .unset, .unset, .unset, .unset, .unset, .unset, .unset, .unset, .unset, .unset, .unset, .unset, .unset, .unset, .unset, .unset]) rfl k) ?_
  show own_G p.tables e below s _ _ _ (s₁.setTop (mkF m 47 #[.val (.int p1), .val (.int p2), .val (.int p3), .val (.int p4), .val (.int p5), .val (.int p6), .val (.int g1), .val (.int g2), .val (.int nn), .val (.int k0), .val (.int k1), .unset, .unset, .unset, .unset, .unset, .unset, .unset, .unset, .unset, .unset, .unset, .unset, .unset, .unset, .unset, .unset, .unset, .unset, .unset, .unset, .unset, .unset] []))
  refine own_go (fun t k => XS.iload X0.here hx rfl (hb hby at_47) rfl k) ?_
  show own_G p.tables e below s _ _ _ (s₁.setTop (mkF m 49 #[.val (.int p1), .val (.int p2), .val (.int p3), .val (.int p4), .val (.int p5), .val (.int p6), .val (.int g1), .val (.int g2), .val (.int nn), .val (.int k0), .val (.int k1), .unset, .unset, .unset, .unset, .unset, .unset, .unset, .unset, .unset, .unset, .unset, .unset, .unset, .unset, .unset, .unset, .unset, .unset, .unset, .unset, .unset, .unset] [(.int p5)]))
  refine own_go (fun t k => X0.ldcInt hx hown (mvT hZ (hw _ (List.mem_of_getElem? (i := 1) rfl))) (g := (mkF m 49 #[.val (.int p1), .val (.int p2), .val (.int p3), .val (.int p4), .val (.int p5), .val (.int p6), .val (.int g1), .val (.int g2), .val (.int nn), .val (.int k0), .val (.int k1), .unset, .unset, .unset, .unset, .unset, .unset, .unset, .unset, .unset, .unset, .unset, .unset, .unset, .unset, .unset, .unset, .unset, .unset, .unset, .unset, .unset, .unset] [(.int p5)])) rfl (hb hby at_49) _ k) ?_
  show own_G p.tables e below s _ _ _ (s₁.setTop (mkF m 51 #[.val (.int p1), .val (.int p2), .val (.int p3), .val (.int p4), .val (.int p5), .val (.int p6), .val (.int g1), .val (.int g2), .val (.int nn), .val (.int k0), .val (.int k1), .unset, .unset, .unset, .unset, .unset, .unset, .unset, .unset, .unset, .unset, .unset, .unset, .unset, .unset, .unset, .unset, .unset, .unset, .unset, .unset, .unset, .unset] [(.int (2147483647 : Int32)), (.int p5)]))
  refine own_go (fun t k => XS.iand X0.here hx rfl (hb hby at_51) rfl k) ?_
  show own_G p.tables e below s _ _ _ (s₁.setTop (mkF m 52 #[.val (.int p1), .val (.int p2), .val (.int p3), .val (.int p4), .val (.int p5), .val (.int p6), .val (.int g1), .val (.int g2), .val (.int nn), .val (.int k0), .val (.int k1), .unset, .unset, .unset, .unset, .unset, .unset, .unset, .unset, .unset, .unset, .unset, .unset, .unset, .unset, .unset, .unset, .unset, .unset, .unset, .unset, .unset, .unset] [(.int (p5 &&& (2147483647 : Int32)))]))
  refine own_go (fun t k => XS.iconst X0.here hx rfl (hb hby at_52) k) ?_
  show own_G p.tables e below s _ _ _ (s₁.setTop (mkF m 53 #[.val (.int p1), .val (.int p2), .val (.int p3), .val (.int p4), .val (.int p5), .val (.int p6), .val (.int g1), .val (.int g2), .val (.int nn), .val (.int k0), .val (.int k1), .unset, .unset, .unset, .unset, .unset, .unset, .unset, .unset, .unset, .unset, .unset, .unset, .unset, .unset, .unset, .unset, .unset, .unset, .unset, .unset, .unset, .unset] [(.int (5 : Int32)), (.int (p5 &&& (2147483647 : Int32)))]))
  refine own_go (fun t k => iremM X0 hx rfl (hb hby at_53) rfl (by decide) k) ?_
  show own_G p.tables e below s _ _ _ (s₁.setTop (mkF m 54 #[.val (.int p1), .val (.int p2), .val (.int p3), .val (.int p4), .val (.int p5), .val (.int p6), .val (.int g1), .val (.int g2), .val (.int nn), .val (.int k0), .val (.int k1), .unset, .unset, .unset, .unset, .unset, .unset, .unset, .unset, .unset, .unset, .unset, .unset, .unset, .unset, .unset, .unset, .unset, .unset, .unset, .unset, .unset, .unset] [(.int ((p5 &&& (2147483647 : Int32)) % (5 : Int32)))]))
  have hk2 := own_k5 p5
  obtain ⟨k2, hk2'⟩ : ∃ z, ((p5 &&& (2147483647 : Int32)) % (5 : Int32)) = z := ⟨_, rfl⟩
  rw [hk2']
  show own_G p.tables e below s _ _ _ (s₁.setTop (mkF m 54 #[.val (.int p1), .val (.int p2), .val (.int p3), .val (.int p4), .val (.int p5), .val (.int p6), .val (.int g1), .val (.int g2), .val (.int nn), .val (.int k0), .val (.int k1), .unset, .unset, .unset, .unset, .unset, .unset, .unset, .unset, .unset, .unset, .unset, .unset, .unset, .unset, .unset, .unset, .unset, .unset, .unset, .unset, .unset, .unset] [(.int k2)]))
  rw [hk2'] at hk2
  have hp1a := p1.toInt_lt
  have hp1b := p1.le_toInt
  refine own_go (fun t k => XS.istore X0.here hx rfl (hb hby at_54) rfl (l' := #[.val (.int p1), .val (.int p2), .val (.int p3), .val (.int p4), .val (.int p5), .val (.int p6), .val (.int g1), .val (.int g2), .val (.int nn), .val (.int k0), .val (.int k1), .val (.int k2), .unset, .unset, .unset, .unset, .unset, .unset, .unset, .unset, .unset, .unset, .unset, .unset, .unset, .unset, .unset, .unset, .unset, .unset, .unset, .unset, .unset]) rfl k) ?_
  show own_G p.tables e below s _ _ _ (s₁.setTop (mkF m 56 #[.val (.int p1), .val (.int p2), .val (.int p3), .val (.int p4), .val (.int p5), .val (.int p6), .val (.int g1), .val (.int g2), .val (.int nn), .val (.int k0), .val (.int k1), .val (.int k2), .unset, .unset, .unset, .unset, .unset, .unset, .unset, .unset, .unset, .unset, .unset, .unset, .unset, .unset, .unset, .unset, .unset, .unset, .unset, .unset, .unset] []))
  refine own_go (fun t k => XS.iload X0.here hx rfl (hb hby at_56) rfl k) ?_
  show own_G p.tables e below s _ _ _ (s₁.setTop (mkF m 58 #[.val (.int p1), .val (.int p2), .val (.int p3), .val (.int p4), .val (.int p5), .val (.int p6), .val (.int g1), .val (.int g2), .val (.int nn), .val (.int k0), .val (.int k1), .val (.int k2), .unset, .unset, .unset, .unset, .unset, .unset, .unset, .unset, .unset, .unset, .unset, .unset, .unset, .unset, .unset, .unset, .unset, .unset, .unset, .unset, .unset] [(.int k0)]))
  obtain ⟨d373, hd373⟩ : ∃ z, Jvm.FP.i2d k0 = z := ⟨_, rfl⟩
  have D373 : own_E (8 * (k0).toInt) d373 := by rw [← hd373]; exact own_i2d k0
  refine own_go (fun t k => XS.i2dS X0.here hx rfl (hb hby at_58) rfl hd373 k) ?_
  show own_G p.tables e below s _ _ _ (s₁.setTop (mkF m 59 #[.val (.int p1), .val (.int p2), .val (.int p3), .val (.int p4), .val (.int p5), .val (.int p6), .val (.int g1), .val (.int g2), .val (.int nn), .val (.int k0), .val (.int k1), .val (.int k2), .unset, .unset, .unset, .unset, .unset, .unset, .unset, .unset, .unset, .unset, .unset, .unset, .unset, .unset, .unset, .unset, .unset, .unset, .unset, .unset, .unset] [(.double d373)]))
  refine own_go (fun t k => X0.ldc2DoubleC hx hown (mvT hZ (hw _ (List.mem_of_getElem? (i := 2) rfl))) (g := (mkF m 59 #[.val (.int p1), .val (.int p2), .val (.int p3), .val (.int p4), .val (.int p5), .val (.int p6), .val (.int g1), .val (.int g2), .val (.int nn), .val (.int k0), .val (.int k1), .val (.int k2), .unset, .unset, .unset, .unset, .unset, .unset, .unset, .unset, .unset, .unset, .unset, .unset, .unset, .unset, .unset, .unset, .unset, .unset, .unset, .unset, .unset] [(.double d373)])) rfl (hb hby at_59) _ k) ?_
  show own_G p.tables e below s _ _ _ (s₁.setTop (mkF m 62 #[.val (.int p1), .val (.int p2), .val (.int p3), .val (.int p4), .val (.int p5), .val (.int p6), .val (.int g1), .val (.int g2), .val (.int nn), .val (.int k0), .val (.int k1), .val (.int k2), .unset, .unset, .unset, .unset, .unset, .unset, .unset, .unset, .unset, .unset, .unset, .unset, .unset, .unset, .unset, .unset, .unset, .unset, .unset, .unset, .unset] [(.double (4616189618054758400 : UInt64)), (.double d373)]))
  obtain ⟨d374, hd374⟩ : ∃ z, Jvm.FP.ddiv d373 (4616189618054758400 : UInt64) = z := ⟨_, rfl⟩
  have D374 : own_E (2 * k0.toInt) d374 := by rw [← hd374]; exact own_div D373 own_4 (by decide) (by omega) (by omega)
  refine own_go (fun t k => XS.ddivS X0.here hx rfl (hb hby at_62) rfl (by rw [hd374]; exact own_num D374) hd374 k) ?_
  show own_G p.tables e below s _ _ _ (s₁.setTop (mkF m 63 #[.val (.int p1), .val (.int p2), .val (.int p3), .val (.int p4), .val (.int p5), .val (.int p6), .val (.int g1), .val (.int g2), .val (.int nn), .val (.int k0), .val (.int k1), .val (.int k2), .unset, .unset, .unset, .unset, .unset, .unset, .unset, .unset, .unset, .unset, .unset, .unset, .unset, .unset, .unset, .unset, .unset, .unset, .unset, .unset, .unset] [(.double d374)]))
  refine own_go (fun t k => XS.dstore X0.here hx rfl (hb hby at_63) rfl (l' := #[.val (.int p1), .val (.int p2), .val (.int p3), .val (.int p4), .val (.int p5), .val (.int p6), .val (.int g1), .val (.int g2), .val (.int nn), .val (.int k0), .val (.int k1), .val (.int k2), .val (.double d374), .second, .unset, .unset, .unset, .unset, .unset, .unset, .unset, .unset, .unset, .unset, .unset, .unset, .unset, .unset, .unset, .unset, .unset, .unset, .unset]) rfl k) ?_
  show own_G p.tables e below s _ _ _ (s₁.setTop (mkF m 65 #[.val (.int p1), .val (.int p2), .val (.int p3), .val (.int p4), .val (.int p5), .val (.int p6), .val (.int g1), .val (.int g2), .val (.int nn), .val (.int k0), .val (.int k1), .val (.int k2), .val (.double d374), .second, .unset, .unset, .unset, .unset, .unset, .unset, .unset, .unset, .unset, .unset, .unset, .unset, .unset, .unset, .unset, .unset, .unset, .unset, .unset] []))
  refine own_go (fun t k => XS.iload X0.here hx rfl (hb hby at_65) rfl k) ?_
  show own_G p.tables e below s _ _ _ (s₁.setTop (mkF m 67 #[.val (.int p1), .val (.int p2), .val (.int p3), .val (.int p4), .val (.int p5), .val (.int p6), .val (.int g1), .val (.int g2), .val (.int nn), .val (.int k0), .val (.int k1), .val (.int k2), .val (.double d374), .second, .unset, .unset, .unset, .unset, .unset, .unset, .unset, .unset, .unset, .unset, .unset, .unset, .unset, .unset, .unset, .unset, .unset, .unset, .unset] [(.int k1)]))
  obtain ⟨d375, hd375⟩ : ∃ z, Jvm.FP.i2d k1 = z := ⟨_, rfl⟩
  have D375 : own_E (8 * (k1).toInt) d375 := by rw [← hd375]; exact own_i2d k1
  refine own_go (fun t k => XS.i2dS X0.here hx rfl (hb hby at_67) rfl hd375 k) ?_
  show own_G p.tables e below s _ _ _ (s₁.setTop (mkF m 68 #[.val (.int p1), .val (.int p2), .val (.int p3), .val (.int p4), .val (.int p5), .val (.int p6), .val (.int g1), .val (.int g2), .val (.int nn), .val (.int k0), .val (.int k1), .val (.int k2), .val (.double d374), .second, .unset, .unset, .unset, .unset, .unset, .unset, .unset, .unset, .unset, .unset, .unset, .unset, .unset, .unset, .unset, .unset, .unset, .unset, .unset] [(.double d375)]))
  refine own_go (fun t k => X0.ldc2DoubleC hx hown (mvT hZ (hw _ (List.mem_of_getElem? (i := 2) rfl))) (g := (mkF m 68 #[.val (.int p1), .val (.int p2), .val (.int p3), .val (.int p4), .val (.int p5), .val (.int p6), .val (.int g1), .val (.int g2), .val (.int nn), .val (.int k0), .val (.int k1), .val (.int k2), .val (.double d374), .second, .unset, .unset, .unset, .unset, .unset, .unset, .unset, .unset, .unset, .unset, .unset, .unset, .unset, .unset, .unset, .unset, .unset, .unset, .unset] [(.double d375)])) rfl (hb hby at_68) _ k) ?_
  show own_G p.tables e below s _ _ _ (s₁.setTop (mkF m 71 #[.val (.int p1), .val (.int p2), .val (.int p3), .val (.int p4), .val (.int p5), .val (.int p6), .val (.int g1), .val (.int g2), .val (.int nn), .val (.int k0), .val (.int k1), .val (.int k2), .val (.double d374), .second, .unset, .unset, .unset, .unset, .unset, .unset, .unset, .unset, .unset, .unset, .unset, .unset, .unset, .unset, .unset, .unset, .unset, .unset, .unset] [(.double (4616189618054758400 : UInt64)), (.double d375)]))
  obtain ⟨d376, hd376⟩ : ∃ z, Jvm.FP.ddiv d375 (4616189618054758400 : UInt64) = z := ⟨_, rfl⟩
  have D376 : own_E (2 * k1.toInt) d376 := by rw [← hd376]; exact own_div D375 own_4 (by decide) (by omega) (by omega)
  refine own_go (fun t k => XS.ddivS X0.here hx rfl (hb hby at_71) rfl (by rw [hd376]; exact own_num D376) hd376 k) ?_
  show own_G p.tables e below s _ _ _ (s₁.setTop (mkF m 72 #[.val (.int p1), .val (.int p2), .val (.int p3), .val (.int p4), .val (.int p5), .val (.int p6), .val (.int g1), .val (.int g2), .val (.int nn), .val (.int k0), .val (.int k1), .val (.int k2), .val (.double d374), .second, .unset, .unset, .unset, .unset, .unset, .unset, .unset, .unset, .unset, .unset, .unset, .unset, .unset, .unset, .unset, .unset, .unset, .unset, .unset] [(.double d376)]))
  refine own_go (fun t k => XS.dstore X0.here hx rfl (hb hby at_72) rfl (l' := #[.val (.int p1), .val (.int p2), .val (.int p3), .val (.int p4), .val (.int p5), .val (.int p6), .val (.int g1), .val (.int g2), .val (.int nn), .val (.int k0), .val (.int k1), .val (.int k2), .val (.double d374), .second, .val (.double d376), .second, .unset, .unset, .unset, .unset, .unset, .unset, .unset, .unset, .unset, .unset, .unset, .unset, .unset, .unset, .unset, .unset, .unset]) rfl k) ?_
  show own_G p.tables e below s _ _ _ (s₁.setTop (mkF m 74 #[.val (.int p1), .val (.int p2), .val (.int p3), .val (.int p4), .val (.int p5), .val (.int p6), .val (.int g1), .val (.int g2), .val (.int nn), .val (.int k0), .val (.int k1), .val (.int k2), .val (.double d374), .second, .val (.double d376), .second, .unset, .unset, .unset, .unset, .unset, .unset, .unset, .unset, .unset, .unset, .unset, .unset, .unset, .unset, .unset, .unset, .unset] []))
  refine own_go (fun t k => XS.iload X0.here hx rfl (hb hby at_74) rfl k) ?_
  show own_G p.tables e below s _ _ _ (s₁.setTop (mkF m 76 #[.val (.int p1), .val (.int p2), .val (.int p3), .val (.int p4), .val (.int p5), .val (.int p6), .val (.int g1), .val (.int g2), .val (.int nn), .val (.int k0), .val (.int k1), .val (.int k2), .val (.double d374), .second, .val (.double d376), .second, .unset, .unset, .unset, .unset, .unset, .unset, .unset, .unset, .unset, .unset, .unset, .unset, .unset, .unset, .unset, .unset, .unset] [(.int k2)]))
  obtain ⟨d377, hd377⟩ : ∃ z, Jvm.FP.i2d k2 = z := ⟨_, rfl⟩
  have D377 : own_E (8 * (k2).toInt) d377 := by rw [← hd377]; exact own_i2d k2
  refine own_go (fun t k => XS.i2dS X0.here hx rfl (hb hby at_76) rfl hd377 k) ?_
  show own_G p.tables e below s _ _ _ (s₁.setTop (mkF m 77 #[.val (.int p1), .val (.int p2), .val (.int p3), .val (.int p4), .val (.int p5), .val (.int p6), .val (.int g1), .val (.int g2), .val (.int nn), .val (.int k0), .val (.int k1), .val (.int k2), .val (.double d374), .second, .val (.double d376), .second, .unset, .unset, .unset, .unset, .unset, .unset, .unset, .unset, .unset, .unset, .unset, .unset, .unset, .unset, .unset, .unset, .unset] [(.double d377)]))
  refine own_go (fun t k => X0.ldc2DoubleC hx hown (mvT hZ (hw _ (List.mem_of_getElem? (i := 2) rfl))) (g := (mkF m 77 #[.val (.int p1), .val (.int p2), .val (.int p3), .val (.int p4), .val (.int p5), .val (.int p6), .val (.int g1), .val (.int g2), .val (.int nn), .val (.int k0), .val (.int k1), .val (.int k2), .val (.double d374), .second, .val (.double d376), .second, .unset, .unset, .unset, .unset, .unset, .unset, .unset, .unset, .unset, .unset, .unset, .unset, .unset, .unset, .unset, .unset, .unset] [(.double d377)])) rfl (hb hby at_77) _ k) ?_
  show own_G p.tables e below s _ _ _ (s₁.setTop (mkF m 80 #[.val (.int p1), .val (.int p2), .val (.int p3), .val (.int p4), .val (.int p5), .val (.int p6), .val (.int g1), .val (.int g2), .val (.int nn), .val (.int k0), .val (.int k1), .val (.int k2), .val (.double d374), .second, .val (.double d376), .second, .unset, .unset, .unset, .unset, .unset, .unset, .unset, .unset, .unset, .unset, .unset, .unset, .unset, .unset, .unset, .unset, .unset] [(.double (4616189618054758400 : UInt64)), (.double d377)]))
  obtain ⟨d378, hd378⟩ : ∃ z, Jvm.FP.ddiv d377 (4616189618054758400 : UInt64) = z := ⟨_, rfl⟩
  have D378 : own_E (2 * k2.toInt) d378 := by rw [← hd378]; exact own_div D377 own_4 (by decide) (by omega) (by omega)
  refine own_go (fun t k => XS.ddivS X0.here hx rfl (hb hby at_80) rfl (by rw [hd378]; exact own_num D378) hd378 k) ?_
  show own_G p.tables e below s _ _ _ (s₁.setTop (mkF m 81 #[.val (.int p1), .val (.int p2), .val (.int p3), .val (.int p4), .val (.int p5), .val (.int p6), .val (.int g1), .val (.int g2), .val (.int nn), .val (.int k0), .val (.int k1), .val (.int k2), .val (.double d374), .second, .val (.double d376), .second, .unset, .unset, .unset, .unset, .unset, .unset, .unset, .unset, .unset, .unset, .unset, .unset, .unset, .unset, .unset, .unset, .unset] [(.double d378)]))
  refine own_go (fun t k => XS.dstore X0.here hx rfl (hb hby at_81) rfl (l' := #[.val (.int p1), .val (.int p2), .val (.int p3), .val (.int p4), .val (.int p5), .val (.int p6), .val (.int g1), .val (.int g2), .val (.int nn), .val (.int k0), .val (.int k1), .val (.int k2), .val (.double d374), .second, .val (.double d376), .second, .val (.double d378), .second, .unset, .unset, .unset, .unset, .unset, .unset, .unset, .unset, .unset, .unset, .unset, .unset, .unset, .unset, .unset]) rfl k) ?_
  show own_G p.tables e below s _ _ _ (s₁.setTop (mkF m 83 #[.val (.int p1), .val (.int p2), .val (.int p3), .val (.int p4), .val (.int p5), .val (.int p6), .val (.int g1), .val (.int g2), .val (.int nn), .val (.int k0), .val (.int k1), .val (.int k2), .val (.double d374), .second, .val (.double d376), .second, .val (.double d378), .second, .unset, .unset, .unset, .unset, .unset, .unset, .unset, .unset, .unset, .unset, .unset, .unset, .unset, .unset, .unset] []))
  refine own_go (fun t k => XS.iloadN X0.here hx rfl (hb hby at_83) rfl k) ?_
  show own_G p.tables e below s _ _ _ (s₁.setTop (mkF m 84 #[.val (.int p1), .val (.int p2), .val (.int p3), .val (.int p4), .val (.int p5), .val (.int p6), .val (.int g1), .val (.int g2), .val (.int nn), .val (.int k0), .val (.int k1), .val (.int k2), .val (.double d374), .second, .val (.double d376), .second, .val (.double d378), .second, .unset, .unset, .unset, .unset, .unset, .unset, .unset, .unset, .unset, .unset, .unset, .unset, .unset, .unset, .unset] [(.int p1)]))
  obtain ⟨d379, hd379⟩ : ∃ z, Jvm.FP.i2d p1 = z := ⟨_, rfl⟩
  have D379 : own_E (8 * (p1).toInt) d379 := by rw [← hd379]; exact own_i2d p1
  refine own_go (fun t k => XS.i2dS X0.here hx rfl (hb hby at_84) rfl hd379 k) ?_
  show own_G p.tables e below s _ _ _ (s₁.setTop (mkF m 85 #[.val (.int p1), .val (.int p2), .val (.int p3), .val (.int p4), .val (.int p5), .val (.int p6), .val (.int g1), .val (.int g2), .val (.int nn), .val (.int k0), .val (.int k1), .val (.int k2), .val (.double d374), .second, .val (.double d376), .second, .val (.double d378), .second, .unset, .unset, .unset, .unset, .unset, .unset, .unset, .unset, .unset, .unset, .unset, .unset, .unset, .unset, .unset] [(.double d379)]))
  refine own_go (fun t k => XS.dstore X0.here hx rfl (hb hby at_85) rfl (l' := #[.val (.int p1), .val (.int p2), .val (.int p3), .val (.int p4), .val (.int p5), .val (.int p6), .val (.int g1), .val (.int g2), .val (.int nn), .val (.int k0), .val (.int k1), .val (.int k2), .val (.double d374), .second, .val (.double d376), .second, .val (.double d378), .second, .val (.double d379), .second, .unset, .unset, .unset, .unset, .unset, .unset, .unset, .unset, .unset, .unset, .unset, .unset, .unset]) rfl k) ?_
  show own_G p.tables e below s _ _ _ (s₁.setTop (mkF m 87 #[.val (.int p1), .val (.int p2), .val (.int p3), .val (.int p4), .val (.int p5), .val (.int p6), .val (.int g1), .val (.int g2), .val (.int nn), .val (.int k0), .val (.int k1), .val (.int k2), .val (.double d374), .second, .val (.double d376), .second, .val (.double d378), .second, .val (.double d379), .second, .unset, .unset, .unset, .unset, .unset, .unset, .unset, .unset, .unset, .unset, .unset, .unset, .unset] []))
  refine own_go (fun t k => XS.iloadN X0.here hx rfl (hb hby at_87) rfl k) ?_
  show own_G p.tables e below s _ _ _ (s₁.setTop (mkF m 88 #[.val (.int p1), .val (.int p2), .val (.int p3), .val (.int p4), .val (.int p5), .val (.int p6), .val (.int g1), .val (.int g2), .val (.int nn), .val (.int k0), .val (.int k1), .val (.int k2), .val (.double d374), .second, .val (.double d376), .second, .val (.double d378), .second, .val (.double d379), .second, .unset, .unset, .unset, .unset, .unset, .unset, .unset, .unset, .unset, .unset, .unset, .unset, .unset] [(.int p1)]))
  refine own_go (fun t k => XS.i2l X0.here hx rfl (hb hby at_88) rfl k) ?_
  show own_G p.tables e below s _ _ _ (s₁.setTop (mkF m 89 #[.val (.int p1), .val (.int p2), .val (.int p3), .val (.int p4), .val (.int p5), .val (.int p6), .val (.int g1), .val (.int g2), .val (.int nn), .val (.int k0), .val (.int k1), .val (.int k2), .val (.double d374), .second, .val (.double d376), .second, .val (.double d378), .second, .val (.double d379), .second, .unset, .unset, .unset, .unset, .unset, .unset, .unset, .unset, .unset, .unset, .unset, .unset, .unset] [(.long (p1.toInt64))]))
  refine own_go (fun t k => XS.iload X0.here hx rfl (hb hby at_89) rfl k) ?_
  show own_G p.tables e below s _ _ _ (s₁.setTop (mkF m 91 #[.val (.int p1), .val (.int p2), .val (.int p3), .val (.int p4), .val (.int p5), .val (.int p6), .val (.int g1), .val (.int g2), .val (.int nn), .val (.int k0), .val (.int k1), .val (.int k2), .val (.double d374), .second, .val (.double d376), .second, .val (.double d378), .second, .val (.double d379), .second, .unset, .unset, .unset, .unset, .unset, .unset, .unset, .unset, .unset, .unset, .unset, .unset, .unset] [(.int g1), (.long (p1.toInt64))]))
  refine own_go (fun t k => XS.i2l X0.here hx rfl (hb hby at_91) rfl k) ?_
  show own_G p.tables e below s _ _ _ (s₁.setTop (mkF m 92 #[.val (.int p1), .val (.int p2), .val (.int p3), .val (.int p4), .val (.int p5), .val (.int p6), .val (.int g1), .val (.int g2), .val (.int nn), .val (.int k0), .val (.int k1), .val (.int k2), .val (.double d374), .second, .val (.double d376), .second, .val (.double d378), .second, .val (.double d379), .second, .unset, .unset, .unset, .unset, .unset, .unset, .unset, .unset, .unset, .unset, .unset, .unset, .unset] [(.long (g1.toInt64)), (.long (p1.toInt64))]))
  refine own_go (fun t k => XS.ladd X0.here hx rfl (hb hby at_92) rfl k) ?_
  show own_G p.tables e below s _ _ _ (s₁.setTop (mkF m 93 #[.val (.int p1), .val (.int p2), .val (.int p3), .val (.int p4), .val (.int p5), .val (.int p6), .val (.int g1), .val (.int g2), .val (.int nn), .val (.int k0), .val (.int k1), .val (.int k2), .val (.double d374), .second, .val (.double d376), .second, .val (.double d378), .second, .val (.double d379), .second, .unset, .unset, .unset, .unset, .unset, .unset, .unset, .unset, .unset, .unset, .unset, .unset, .unset] [(.long ((p1.toInt64) + (g1.toInt64)))]))
  obtain ⟨d380, hd380⟩ : ∃ z, Jvm.FP.l2d ((p1.toInt64) + (g1.toInt64)) = z := ⟨_, rfl⟩
  have D380 : own_E (8 * (p1.toInt + g1.toInt)) d380 := by rw [← hd380]; exact own_lE (own_add64 (v := p1.toInt + g1.toInt) (by rw [own_w, own_w]) (by omega) (by omega)) (by omega)
  refine own_go (fun t k => XS.l2dS X0.here hx rfl (hb hby at_93) rfl hd380 k) ?_
  show own_G p.tables e below s _ _ _ (s₁.setTop (mkF m 94 #[.val (.int p1), .val (.int p2), .val (.int p3), .val (.int p4), .val (.int p5), .val (.int p6), .val (.int g1), .val (.int g2), .val (.int nn), .val (.int k0), .val (.int k1), .val (.int k2), .val (.double d374), .second, .val (.double d376), .second, .val (.double d378), .second, .val (.double d379), .second, .unset, .unset, .unset, .unset, .unset, .unset, .unset, .unset, .unset, .unset, .unset, .unset, .unset] [(.double d380)]))
  refine own_go (fun t k => XS.dstore X0.here hx rfl (hb hby at_94) rfl (l' := #[.val (.int p1), .val (.int p2), .val (.int p3), .val (.int p4), .val (.int p5), .val (.int p6), .val (.int g1), .val (.int g2), .val (.int nn), .val (.int k0), .val (.int k1), .val (.int k2), .val (.double d374), .second, .val (.double d376), .second, .val (.double d378), .second, .val (.double d379), .second, .val (.double d380), .second, .unset, .unset, .unset, .unset, .unset, .unset, .unset, .unset, .unset, .unset, .unset]) rfl k) ?_
  show own_G p.tables e below s _ _ _ (s₁.setTop (mkF m 96 #[.val (.int p1), .val (.int p2), .val (.int p3), .val (.int p4), .val (.int p5), .val (.int p6), .val (.int g1), .val (.int g2), .val (.int nn), .val (.int k0), .val (.int k1), .val (.int k2), .val (.double d374), .second, .val (.double d376), .second, .val (.double d378), .second, .val (.double d379), .second, .val (.double d380), .second, .unset, .unset, .unset, .unset, .unset, .unset, .unset, .unset, .unset, .unset, .unset] []))
  refine own_go (fun t k => XS.iloadN X0.here hx rfl (hb hby at_96) rfl k) ?_
  show own_G p.tables e below s _ _ _ (s₁.setTop (mkF m 97 #[.val (.int p1), .val (.int p2), .val (.int p3), .val (.int p4), .val (.int p5), .val (.int p6), .val (.int g1), .val (.int g2), .val (.int nn), .val (.int k0), .val (.int k1), .val (.int k2), .val (.double d374), .second, .val (.double d376), .second, .val (.double d378), .second, .val (.double d379), .second, .val (.double d380), .second, .unset, .unset, .unset, .unset, .unset, .unset, .unset, .unset, .unset, .unset, .unset] [(.int p1)]))
  refine own_go (fun t k => XS.i2l X0.here hx rfl (hb hby at_97) rfl k) ?_
  show own_G p.tables e below s _ _ _ (s₁.setTop (mkF m 98 #[.val (.int p1), .val (.int p2), .val (.int p3), .val (.int p4), .val (.int p5), .val (.int p6), .val (.int g1), .val (.int g2), .val (.int nn), .val (.int k0), .val (.int k1), .val (.int k2), .val (.double d374), .second, .val (.double d376), .second, .val (.double d378), .second, .val (.double d379), .second, .val (.double d380), .second, .unset, .unset, .unset, .unset, .unset, .unset, .unset, .unset, .unset, .unset, .unset] [(.long (p1.toInt64))]))
  refine own_go (fun t k => XS.iload X0.here hx rfl (hb hby at_98) rfl k) ?_
  show own_G p.tables e below s _ _ _ (s₁.setTop (mkF m 100 #[.val (.int p1), .val (.int p2), .val (.int p3), .val (.int p4), .val (.int p5), .val (.int p6), .val (.int g1), .val (.int g2), .val (.int nn), .val (.int k0), .val (.int k1), .val (.int k2), .val (.double d374), .second, .val (.double d376), .second, .val (.double d378), .second, .val (.double d379), .second, .val (.double d380), .second, .unset, .unset, .unset, .unset, .unset, .unset, .unset, .unset, .unset, .unset, .unset] [(.int g1), (.long (p1.toInt64))]))
  refine own_go (fun t k => XS.i2l X0.here hx rfl (hb hby at_100) rfl k) ?_
  show own_G p.tables e below s _ _ _ (s₁.setTop (mkF m 101 #[.val (.int p1), .val (.int p2), .val (.int p3), .val (.int p4), .val (.int p5), .val (.int p6), .val (.int g1), .val (.int g2), .val (.int nn), .val (.int k0), .val (.int k1), .val (.int k2), .val (.double d374), .second, .val (.double d376), .second, .val (.double d378), .second, .val (.double d379), .second, .val (.double d380), .second, .unset, .unset, .unset, .unset, .unset, .unset, .unset, .unset, .unset, .unset, .unset] [(.long (g1.toInt64)), (.long (p1.toInt64))]))
  refine own_go (fun t k => XS.ladd X0.here hx rfl (hb hby at_101) rfl k) ?_
  show own_G p.tables e below s _ _ _ (s₁.setTop (mkF m 102 #[.val (.int p1), .val (.int p2), .val (.int p3), .val (.int p4), .val (.int p5), .val (.int p6), .val (.int g1), .val (.int g2), .val (.int nn), .val (.int k0), .val (.int k1), .val (.int k2), .val (.double d374), .second, .val (.double d376), .second, .val (.double d378), .second, .val (.double d379), .second, .val (.double d380), .second, .unset, .unset, .unset, .unset, .unset, .unset, .unset, .unset, .unset, .unset, .unset] [(.long ((p1.toInt64) + (g1.toInt64)))]))
  refine own_go (fun t k => XS.iload X0.here hx rfl (hb hby at_102) rfl k) ?_
  show own_G p.tables e below s _ _ _ (s₁.setTop (mkF m 104 #[.val (.int p1), .val (.int p2), .val (.int p3), .val (.int p4), .val (.int p5), .val (.int p6), .val (.int g1), .val (.int g2), .val (.int nn), .val (.int k0), .val (.int k1), .val (.int k2), .val (.double d374), .second, .val (.double d376), .second, .val (.double d378), .second, .val (.double d379), .second, .val (.double d380), .second, .unset, .unset, .unset, .unset, .unset, .unset, .unset, .unset, .unset, .unset, .unset] [(.int g2), (.long ((p1.toInt64) + (g1.toInt64)))]))
  refine own_go (fun t k => XS.i2l X0.here hx rfl (hb hby at_104) rfl k) ?_
  show own_G p.tables e below s _ _ _ (s₁.setTop (mkF m 105 #[.val (.int p1), .val (.int p2), .val (.int p3), .val (.int p4), .val (.int p5), .val (.int p6), .val (.int g1), .val (.int g2), .val (.int nn), .val (.int k0), .val (.int k1), .val (.int k2), .val (.double d374), .second, .val (.double d376), .second, .val (.double d378), .second, .val (.double d379), .second, .val (.double d380), .second, .unset, .unset, .unset, .unset, .unset, .unset, .unset, .unset, .unset, .unset, .unset] [(.long (g2.toInt64)), (.long ((p1.toInt64) + (g1.toInt64)))]))
  refine own_go (fun t k => XS.ladd X0.here hx rfl (hb hby at_105) rfl k) ?_
  show own_G p.tables e below s _ _ _ (s₁.setTop (mkF m 106 #[.val (.int p1), .val (.int p2), .val (.int p3), .val (.int p4), .val (.int p5), .val (.int p6), .val (.int g1), .val (.int g2), .val (.int nn), .val (.int k0), .val (.int k1), .val (.int k2), .val (.double d374), .second, .val (.double d376), .second, .val (.double d378), .second, .val (.double d379), .second, .val (.double d380), .second, .unset, .unset, .unset, .unset, .unset, .unset, .unset, .unset, .unset, .unset, .unset] [(.long (((p1.toInt64) + (g1.toInt64)) + (g2.toInt64)))]))
  obtain ⟨d381, hd381⟩ : ∃ z, Jvm.FP.l2d (((p1.toInt64) + (g1.toInt64)) + (g2.toInt64)) = z := ⟨_, rfl⟩
  have D381 : own_E (8 * (p1.toInt + g1.toInt + g2.toInt)) d381 := by rw [← hd381]; exact own_lE (own_add64 (v := p1.toInt + g1.toInt + g2.toInt) (by rw [own_add64 (v := p1.toInt + g1.toInt) (by rw [own_w, own_w]) (by omega) (by omega), own_w]) (by omega) (by omega)) (by omega)
  refine own_go (fun t k => XS.l2dS X0.here hx rfl (hb hby at_106) rfl hd381 k) ?_
  show own_G p.tables e below s _ _ _ (s₁.setTop (mkF m 107 #[.val (.int p1), .val (.int p2), .val (.int p3), .val (.int p4), .val (.int p5), .val (.int p6), .val (.int g1), .val (.int g2), .val (.int nn), .val (.int k0), .val (.int k1), .val (.int k2), .val (.double d374), .second, .val (.double d376), .second, .val (.double d378), .second, .val (.double d379), .second, .val (.double d380), .second, .unset, .unset, .unset, .unset, .unset, .unset, .unset, .unset, .unset, .unset, .unset] [(.double d381)]))
  refine own_go (fun t k => XS.dstore X0.here hx rfl (hb hby at_107) rfl (l' := #[.val (.int p1), .val (.int p2), .val (.int p3), .val (.int p4), .val (.int p5), .val (.int p6), .val (.int g1), .val (.int g2), .val (.int nn), .val (.int k0), .val (.int k1), .val (.int k2), .val (.double d374), .second, .val (.double d376), .second, .val (.double d378), .second, .val (.double d379), .second, .val (.double d380), .second, .val (.double d381), .second, .unset, .unset, .unset, .unset, .unset, .unset, .unset, .unset, .unset]) rfl k) ?_
  show own_G p.tables e below s _ _ _ (s₁.setTop (mkF m 109 #[.val (.int p1), .val (.int p2), .val (.int p3), .val (.int p4), .val (.int p5), .val (.int p6), .val (.int g1), .val (.int g2), .val (.int nn), .val (.int k0), .val (.int k1), .val (.int k2), .val (.double d374), .second, .val (.double d376), .second, .val (.double d378), .second, .val (.double d379), .second, .val (.double d380), .second, .val (.double d381), .second, .unset, .unset, .unset, .unset, .unset, .unset, .unset, .unset, .unset] []))
  refine own_go (fun t k => XS.iloadN X0.here hx rfl (hb hby at_109) rfl k) ?_
  show own_G p.tables e below s _ _ _ (s₁.setTop (mkF m 110 #[.val (.int p1), .val (.int p2), .val (.int p3), .val (.int p4), .val (.int p5), .val (.int p6), .val (.int g1), .val (.int g2), .val (.int nn), .val (.int k0), .val (.int k1), .val (.int k2), .val (.double d374), .second, .val (.double d376), .second, .val (.double d378), .second, .val (.double d379), .second, .val (.double d380), .second, .val (.double d381), .second, .unset, .unset, .unset, .unset, .unset, .unset, .unset, .unset, .unset] [(.int p1)]))
  refine own_go (fun t k => XS.i2l X0.here hx rfl (hb hby at_110) rfl k) ?_
  show own_G p.tables e below s _ _ _ (s₁.setTop (mkF m 111 #[.val (.int p1), .val (.int p2), .val (.int p3), .val (.int p4), .val (.int p5), .val (.int p6), .val (.int g1), .val (.int g2), .val (.int nn), .val (.int k0), .val (.int k1), .val (.int k2), .val (.double d374), .second, .val (.double d376), .second, .val (.double d378), .second, .val (.double d379), .second, .val (.double d380), .second, .val (.double d381), .second, .unset, .unset, .unset, .unset, .unset, .unset, .unset, .unset, .unset] [(.long (p1.toInt64))]))
  refine own_go (fun t k => XS.iload X0.here hx rfl (hb hby at_111) rfl k) ?_
  show own_G p.tables e below s _ _ _ (s₁.setTop (mkF m 113 #[.val (.int p1), .val (.int p2), .val (.int p3), .val (.int p4), .val (.int p5), .val (.int p6), .val (.int g1), .val (.int g2), .val (.int nn), .val (.int k0), .val (.int k1), .val (.int k2), .val (.double d374), .second, .val (.double d376), .second, .val (.double d378), .second, .val (.double d379), .second, .val (.double d380), .second, .val (.double d381), .second, .unset, .unset, .unset, .unset, .unset, .unset, .unset, .unset, .unset] [(.int p6), (.long (p1.toInt64))]))
  refine own_go (fun t k => XS.bipush X0.here hx rfl (hb hby at_113) k) ?_
  show own_G p.tables e below s _ _ _ (s₁.setTop (mkF m 115 #[.val (.int p1), .val (.int p2), .val (.int p3), .val (.int p4), .val (.int p5), .val (.int p6), .val (.int g1), .val (.int g2), .val (.int nn), .val (.int k0), .val (.int k1), .val (.int k2), .val (.double d374), .second, .val (.double d376), .second, .val (.double d378), .second, .val (.double d379), .second, .val (.double d380), .second, .val (.double d381), .second, .unset, .unset, .unset, .unset, .unset, .unset, .unset, .unset, .unset] [(.int (7 : Int32)), (.int p6), (.long (p1.toInt64))]))
  refine own_go (fun t k => XS.iand X0.here hx rfl (hb hby at_115) rfl k) ?_
  show own_G p.tables e below s _ _ _ (s₁.setTop (mkF m 116 #[.val (.int p1), .val (.int p2), .val (.int p3), .val (.int p4), .val (.int p5), .val (.int p6), .val (.int g1), .val (.int g2), .val (.int nn), .val (.int k0), .val (.int k1), .val (.int k2), .val (.double d374), .second, .val (.double d376), .second, .val (.double d378), .second, .val (.double d379), .second, .val (.double d380), .second, .val (.double d381), .second, .unset, .unset, .unset, .unset, .unset, .unset, .unset, .unset, .unset] [(.int (p6 &&& (7 : Int32))), (.long (p1.toInt64))]))
  refine own_go (fun t k => XS.iconst X0.here hx rfl (hb hby at_116) k) ?_
  show own_G p.tables e below s _ _ _ (s₁.setTop (mkF m 117 #[.val (.int p1), .val (.int p2), .val (.int p3), .val (.int p4), .val (.int p5), .val (.int p6), .val (.int g1), .val (.int g2), .val (.int nn), .val (.int k0), .val (.int k1), .val (.int k2), .val (.double d374), .second, .val (.double d376), .second, .val (.double d378), .second, .val (.double d379), .second, .val (.double d380), .second, .val (.double d381), .second, .unset, .unset, .unset, .unset, .unset, .unset, .unset, .unset, .unset] [(.int (1 : Int32)), (.int (p6 &&& (7 : Int32))), (.long (p1.toInt64))]))
  refine own_go (fun t k => XS.iadd X0.here hx rfl (hb hby at_117) rfl k) ?_
  show own_G p.tables e below s _ _ _ (s₁.setTop (mkF m 118 #[.val (.int p1), .val (.int p2), .val (.int p3), .val (.int p4), .val (.int p5), .val (.int p6), .val (.int g1), .val (.int g2), .val (.int nn), .val (.int k0), .val (.int k1), .val (.int k2), .val (.double d374), .second, .val (.double d376), .second, .val (.double d378), .second, .val (.double d379), .second, .val (.double d380), .second, .val (.double d381), .second, .unset, .unset, .unset, .unset, .unset, .unset, .unset, .unset, .unset] [(.int ((p6 &&& (7 : Int32)) + (1 : Int32))), (.long (p1.toInt64))]))
  have heb := own_g p6
  obtain ⟨eb, heb'⟩ : ∃ z, ((p6 &&& (7 : Int32)) + (1 : Int32)) = z := ⟨_, rfl⟩
  rw [heb']
  show own_G p.tables e below s _ _ _ (s₁.setTop (mkF m 118 #[.val (.int p1), .val (.int p2), .val (.int p3), .val (.int p4), .val (.int p5), .val (.int p6), .val (.int g1), .val (.int g2), .val (.int nn), .val (.int k0), .val (.int k1), .val (.int k2), .val (.double d374), .second, .val (.double d376), .second, .val (.double d378), .second, .val (.double d379), .second, .val (.double d380), .second, .val (.double d381), .second, .unset, .unset, .unset, .unset, .unset, .unset, .unset, .unset, .unset] [(.int eb), (.long (p1.toInt64))]))
  rw [heb'] at heb
  refine own_go (fun t k => XS.i2l X0.here hx rfl (hb hby at_118) rfl k) ?_
  show own_G p.tables e below s _ _ _ (s₁.setTop (mkF m 119 #[.val (.int p1), .val (.int p2), .val (.int p3), .val (.int p4), .val (.int p5), .val (.int p6), .val (.int g1), .val (.int g2), .val (.int nn), .val (.int k0), .val (.int k1), .val (.int k2), .val (.double d374), .second, .val (.double d376), .second, .val (.double d378), .second, .val (.double d379), .second, .val (.double d380), .second, .val (.double d381), .second, .unset, .unset, .unset, .unset, .unset, .unset, .unset, .unset, .unset] [(.long (eb.toInt64)), (.long (p1.toInt64))]))
  refine own_go (fun t k => XS.lsub X0.here hx rfl (hb hby at_119) rfl k) ?_
  show own_G p.tables e below s _ _ _ (s₁.setTop (mkF m 120 #[.val (.int p1), .val (.int p2), .val (.int p3), .val (.int p4), .val (.int p5), .val (.int p6), .val (.int g1), .val (.int g2), .val (.int nn), .val (.int k0), .val (.int k1), .val (.int k2), .val (.double d374), .second, .val (.double d376), .second, .val (.double d378), .second, .val (.double d379), .second, .val (.double d380), .second, .val (.double d381), .second, .unset, .unset, .unset, .unset, .unset, .unset, .unset, .unset, .unset] [(.long ((p1.toInt64) - (eb.toInt64)))]))
  obtain ⟨d382, hd382⟩ : ∃ z, Jvm.FP.l2d ((p1.toInt64) - (eb.toInt64)) = z := ⟨_, rfl⟩
  have D382 : own_E (8 * (p1.toInt - eb.toInt)) d382 := by rw [← hd382]; exact own_lE (own_sub64 (v := p1.toInt - eb.toInt) (by rw [own_w, own_w]) (by omega) (by omega)) (by omega)
  refine own_go (fun t k => XS.l2dS X0.here hx rfl (hb hby at_120) rfl hd382 k) ?_
  show own_G p.tables e below s _ _ _ (s₁.setTop (mkF m 121 #[.val (.int p1), .val (.int p2), .val (.int p3), .val (.int p4), .val (.int p5), .val (.int p6), .val (.int g1), .val (.int g2), .val (.int nn), .val (.int k0), .val (.int k1), .val (.int k2), .val (.double d374), .second, .val (.double d376), .second, .val (.double d378), .second, .val (.double d379), .second, .val (.double d380), .second, .val (.double d381), .second, .unset, .unset, .unset, .unset, .unset, .unset, .unset, .unset, .unset] [(.double d382)]))
  refine own_go (fun t k => XS.dstore X0.here hx rfl (hb hby at_121) rfl (l' := #[.val (.int p1), .val (.int p2), .val (.int p3), .val (.int p4), .val (.int p5), .val (.int p6), .val (.int g1), .val (.int g2), .val (.int nn), .val (.int k0), .val (.int k1), .val (.int k2), .val (.double d374), .second, .val (.double d376), .second, .val (.double d378), .second, .val (.double d379), .second, .val (.double d380), .second, .val (.double d381), .second, .val (.double d382), .second, .unset, .unset, .unset, .unset, .unset, .unset, .unset]) rfl k) ?_
  show own_G p.tables e below s _ _ _ (s₁.setTop (mkF m 123 #[.val (.int p1), .val (.int p2), .val (.int p3), .val (.int p4), .val (.int p5), .val (.int p6), .val (.int g1), .val (.int g2), .val (.int nn), .val (.int k0), .val (.int k1), .val (.int k2), .val (.double d374), .second, .val (.double d376), .second, .val (.double d378), .second, .val (.double d379), .second, .val (.double d380), .second, .val (.double d381), .second, .val (.double d382), .second, .unset, .unset, .unset, .unset, .unset, .unset, .unset] []))
  refine own_go (fun t k => XS.iload X0.here hx rfl (hb hby at_123) rfl k) ?_
  show own_G p.tables e below s _ _ _ (s₁.setTop (mkF m 125 #[.val (.int p1), .val (.int p2), .val (.int p3), .val (.int p4), .val (.int p5), .val (.int p6), .val (.int g1), .val (.int g2), .val (.int nn), .val (.int k0), .val (.int k1), .val (.int k2), .val (.double d374), .second, .val (.double d376), .second, .val (.double d378), .second, .val (.double d379), .second, .val (.double d380), .second, .val (.double d381), .second, .val (.double d382), .second, .unset, .unset, .unset, .unset, .unset, .unset, .unset] [(.int p6)]))
  refine own_go (fun t k => XS.iconst X0.here hx rfl (hb hby at_125) k) ?_
  show own_G p.tables e below s _ _ _ (s₁.setTop (mkF m 126 #[.val (.int p1), .val (.int p2), .val (.int p3), .val (.int p4), .val (.int p5), .val (.int p6), .val (.int g1), .val (.int g2), .val (.int nn), .val (.int k0), .val (.int k1), .val (.int k2), .val (.double d374), .second, .val (.double d376), .second, .val (.double d378), .second, .val (.double d379), .second, .val (.double d380), .second, .val (.double d381), .second, .val (.double d382), .second, .unset, .unset, .unset, .unset, .unset, .unset, .unset] [(.int (3 : Int32)), (.int p6)]))
  refine own_go (fun t k => XS.iushr X0.here hx rfl (hb hby at_126) rfl k) ?_
  show own_G p.tables e below s _ _ _ (s₁.setTop (mkF m 127 #[.val (.int p1), .val (.int p2), .val (.int p3), .val (.int p4), .val (.int p5), .val (.int p6), .val (.int g1), .val (.int g2), .val (.int nn), .val (.int k0), .val (.int k1), .val (.int k2), .val (.double d374), .second, .val (.double d376), .second, .val (.double d378), .second, .val (.double d379), .second, .val (.double d380), .second, .val (.double d381), .second, .val (.double d382), .second, .unset, .unset, .unset, .unset, .unset, .unset, .unset] [(.int ((p6.toUInt32 >>> ((3 : Int32) &&& 31).toUInt32).toInt32))]))
  refine own_go (fun t k => XS.bipush X0.here hx rfl (hb hby at_127) k) ?_
  show own_G p.tables e below s _ _ _ (s₁.setTop (mkF m 129 #[.val (.int p1), .val (.int p2), .val (.int p3), .val (.int p4), .val (.int p5), .val (.int p6), .val (.int g1), .val (.int g2), .val (.int nn), .val (.int k0), .val (.int k1), .val (.int k2), .val (.double d374), .second, .val (.double d376), .second, .val (.double d378), .second, .val (.double d379), .second, .val (.double d380), .second, .val (.double d381), .second, .val (.double d382), .second, .unset, .unset, .unset, .unset, .unset, .unset, .unset] [(.int (7 : Int32)), (.int ((p6.toUInt32 >>> ((3 : Int32) &&& 31).toUInt32).toInt32))]))
  refine own_go (fun t k => XS.iand X0.here hx rfl (hb hby at_129) rfl k) ?_
  show own_G p.tables e below s _ _ _ (s₁.setTop (mkF m 130 #[.val (.int p1), .val (.int p2), .val (.int p3), .val (.int p4), .val (.int p5), .val (.int p6), .val (.int g1), .val (.int g2), .val (.int nn), .val (.int k0), .val (.int k1), .val (.int k2), .val (.double d374), .second, .val (.double d376), .second, .val (.double d378), .second, .val (.double d379), .second, .val (.double d380), .second, .val (.double d381), .second, .val (.double d382), .second, .unset, .unset, .unset, .unset, .unset, .unset, .unset] [(.int (((p6.toUInt32 >>> ((3 : Int32) &&& 31).toUInt32).toInt32) &&& (7 : Int32)))]))
  refine own_go (fun t k => XS.iconst X0.here hx rfl (hb hby at_130) k) ?_
  show own_G p.tables e below s _ _ _ (s₁.setTop (mkF m 131 #[.val (.int p1), .val (.int p2), .val (.int p3), .val (.int p4), .val (.int p5), .val (.int p6), .val (.int g1), .val (.int g2), .val (.int nn), .val (.int k0), .val (.int k1), .val (.int k2), .val (.double d374), .second, .val (.double d376), .second, .val (.double d378), .second, .val (.double d379), .second, .val (.double d380), .second, .val (.double d381), .second, .val (.double d382), .second, .unset, .unset, .unset, .unset, .unset, .unset, .unset] [(.int (1 : Int32)), (.int (((p6.toUInt32 >>> ((3 : Int32) &&& 31).toUInt32).toInt32) &&& (7 : Int32)))]))
  refine own_go (fun t k => XS.iadd X0.here hx rfl (hb hby at_131) rfl k) ?_
  show own_G p.tables e below s _ _ _ (s₁.setTop (mkF m 132 #[.val (.int p1), .val (.int p2), .val (.int p3), .val (.int p4), .val (.int p5), .val (.int p6), .val (.int g1), .val (.int g2), .val (.int nn), .val (.int k0), .val (.int k1), .val (.int k2), .val (.double d374), .second, .val (.double d376), .second, .val (.double d378), .second, .val (.double d379), .second, .val (.double d380), .second, .val (.double d381), .second, .val (.double d382), .second, .unset, .unset, .unset, .unset, .unset, .unset, .unset] [(.int ((((p6.toUInt32 >>> ((3 : Int32) &&& 31).toUInt32).toInt32) &&& (7 : Int32)) + (1 : Int32)))]))
  have heu := own_g ((p6.toUInt32 >>> ((3 : Int32) &&& 31).toUInt32).toInt32)
  obtain ⟨eu, heu'⟩ : ∃ z, ((((p6.toUInt32 >>> ((3 : Int32) &&& 31).toUInt32).toInt32) &&& (7 : Int32)) + (1 : Int32)) = z := ⟨_, rfl⟩
  rw [heu']
  show own_G p.tables e below s _ _ _ (s₁.setTop (mkF m 132 #[.val (.int p1), .val (.int p2), .val (.int p3), .val (.int p4), .val (.int p5), .val (.int p6), .val (.int g1), .val (.int g2), .val (.int nn), .val (.int k0), .val (.int k1), .val (.int k2), .val (.double d374), .second, .val (.double d376), .second, .val (.double d378), .second, .val (.double d379), .second, .val (.double d380), .second, .val (.double d381), .second, .val (.double d382), .second, .unset, .unset, .unset, .unset, .unset, .unset, .unset] [(.int eu)]))
  rw [heu'] at heu
  refine own_go (fun t k => XS.i2l X0.here hx rfl (hb hby at_132) rfl k) ?_
  show own_G p.tables e below s _ _ _ (s₁.setTop (mkF m 133 #[.val (.int p1), .val (.int p2), .val (.int p3), .val (.int p4), .val (.int p5), .val (.int p6), .val (.int g1), .val (.int g2), .val (.int nn), .val (.int k0), .val (.int k1), .val (.int k2), .val (.double d374), .second, .val (.double d376), .second, .val (.double d378), .second, .val (.double d379), .second, .val (.double d380), .second, .val (.double d381), .second, .val (.double d382), .second, .unset, .unset, .unset, .unset, .unset, .unset, .unset] [(.long (eu.toInt64))]))
  refine own_go (fun t k => XS.lstore X0.here hx rfl (hb hby at_133) rfl (l' := #[.val (.int p1), .val (.int p2), .val (.int p3), .val (.int p4), .val (.int p5), .val (.int p6), .val (.int g1), .val (.int g2), .val (.int nn), .val (.int k0), .val (.int k1), .val (.int k2), .val (.double d374), .second, .val (.double d376), .second, .val (.double d378), .second, .val (.double d379), .second, .val (.double d380), .second, .val (.double d381), .second, .val (.double d382), .second, .val (.long (eu.toInt64)), .second, .unset, .unset, .unset, .unset, .unset]) rfl k) ?_
  show own_G p.tables e below s _ _ _ (s₁.setTop (mkF m 135 #[.val (.int p1), .val (.int p2), .val (.int p3), .val (.int p4), .val (.int p5), .val (.int p6), .val (.int g1), .val (.int g2), .val (.int nn), .val (.int k0), .val (.int k1), .val (.int k2), .val (.double d374), .second, .val (.double d376), .second, .val (.double d378), .second, .val (.double d379), .second, .val (.double d380), .second, .val (.double d381), .second, .val (.double d382), .second, .val (.long (eu.toInt64)), .second, .unset, .unset, .unset, .unset, .unset] []))
  refine own_go (fun t k => XS.iload X0.here hx rfl (hb hby at_135) rfl k) ?_
  show own_G p.tables e below s _ _ _ (s₁.setTop (mkF m 137 #[.val (.int p1), .val (.int p2), .val (.int p3), .val (.int p4), .val (.int p5), .val (.int p6), .val (.int g1), .val (.int g2), .val (.int nn), .val (.int k0), .val (.int k1), .val (.int k2), .val (.double d374), .second, .val (.double d376), .second, .val (.double d378), .second, .val (.double d379), .second, .val (.double d380), .second, .val (.double d381), .second, .val (.double d382), .second, .val (.long (eu.toInt64)), .second, .unset, .unset, .unset, .unset, .unset] [(.int nn)]))
  refine own_go (fun t k => XS.iconst X0.here hx rfl (hb hby at_137) k) ?_
  show own_G p.tables e below s _ _ _ (s₁.setTop (mkF m 138 #[.val (.int p1), .val (.int p2), .val (.int p3), .val (.int p4), .val (.int p5), .val (.int p6), .val (.int g1), .val (.int g2), .val (.int nn), .val (.int k0), .val (.int k1), .val (.int k2), .val (.double d374), .second, .val (.double d376), .second, .val (.double d378), .second, .val (.double d379), .second, .val (.double d380), .second, .val (.double d381), .second, .val (.double d382), .second, .val (.long (eu.toInt64)), .second, .unset, .unset, .unset, .unset, .unset] [(.int (1 : Int32)), (.int nn)]))
  rcases hnn with rfl | rfl | rfl
  · show own_G p.tables e below s _ _ _ (s₁.setTop (mkF m 138 #[.val (.int p1), .val (.int p2), .val (.int p3), .val (.int p4), .val (.int p5), .val (.int p6), .val (.int g1), .val (.int g2), .val (.int (1 : Int32)), .val (.int k0), .val (.int k1), .val (.int k2), .val (.double d374), .second, .val (.double d376), .second, .val (.double d378), .second, .val (.double d379), .second, .val (.double d380), .second, .val (.double d381), .second, .val (.double d382), .second, .val (.long (eu.toInt64)), .second, .unset, .unset, .unset, .unset, .unset] [(.int (1 : Int32)), (.int (1 : Int32))]))
    refine own_go (fun t k => XS.icmpNo X0.here hx rfl (hb hby at_138) rfl (by decide) k) ?_
    show own_G p.tables e below s _ _ _ (s₁.setTop (mkF m 141 #[.val (.int p1), .val (.int p2), .val (.int p3), .val (.int p4), .val (.int p5), .val (.int p6), .val (.int g1), .val (.int g2), .val (.int (1 : Int32)), .val (.int k0), .val (.int k1), .val (.int k2), .val (.double d374), .second, .val (.double d376), .second, .val (.double d378), .second, .val (.double d379), .second, .val (.double d380), .second, .val (.double d381), .second, .val (.double d382), .second, .val (.long (eu.toInt64)), .second, .unset, .unset, .unset, .unset, .unset] []))
    refine own_go (fun t k => XS.iconst X0.here hx rfl (hb hby at_141) k) ?_
    show own_G p.tables e below s _ _ _ (s₁.setTop (mkF m 142 #[.val (.int p1), .val (.int p2), .val (.int p3), .val (.int p4), .val (.int p5), .val (.int p6), .val (.int g1), .val (.int g2), .val (.int (1 : Int32)), .val (.int k0), .val (.int k1), .val (.int k2), .val (.double d374), .second, .val (.double d376), .second, .val (.double d378), .second, .val (.double d379), .second, .val (.double d380), .second, .val (.double d381), .second, .val (.double d382), .second, .val (.long (eu.toInt64)), .second, .unset, .unset, .unset, .unset, .unset] [(.int (2 : Int32))]))
    obtain ⟨T383, h383, k383, X383, e383, E383, A383, st383⟩ := newP X0 hx hZ (hw _ (List.mem_of_getElem? (i := 3) rfl)) e0 (g := (mkF m 142 #[.val (.int p1), .val (.int p2), .val (.int p3), .val (.int p4), .val (.int p5), .val (.int p6), .val (.int g1), .val (.int g2), .val (.int (1 : Int32)), .val (.int k0), .val (.int k1), .val (.int k2), .val (.double d374), .second, .val (.double d376), .second, .val (.double d378), .second, .val (.double d379), .second, .val (.double d380), .second, .val (.double d381), .second, .val (.double d382), .second, .val (.long (eu.toInt64)), .second, .unset, .unset, .unset, .unset, .unset] [(.int (2 : Int32))])) rfl (hb hby at_142) rfl (by decide) (cap := 2) (by decide) (by decide) (by decide) (by decide)
    obtain ⟨b383, g383⟩ : ∃ z, z = h0.size := ⟨_, rfl⟩
    rw [← g383] at A383 st383
    refine own_go st383 ?_
    have g384 := Nat.le_trans Z0 (Nat.le_of_eq g383.symm)
    have z385 := Nat.le_trans Z0 E383.1
    have v386 : Arv Z h383 b383 k383 .double (2 : Int32) [(.double 0), (.double 0)] (.double 0) := (Arv.new A383 (by decide)).pad (pad_rep [] (.double 0) 2)
    show own_G p.tables e below s _ _ _ (T383.setTop (mkF m 144 #[.val (.int p1), .val (.int p2), .val (.int p3), .val (.int p4), .val (.int p5), .val (.int p6), .val (.int g1), .val (.int g2), .val (.int (1 : Int32)), .val (.int k0), .val (.int k1), .val (.int k2), .val (.double d374), .second, .val (.double d376), .second, .val (.double d378), .second, .val (.double d379), .second, .val (.double d380), .second, .val (.double d381), .second, .val (.double d382), .second, .val (.long (eu.toInt64)), .second, .unset, .unset, .unset, .unset, .unset] [(.ref b383)]))
    refine own_go (fun t k => XS.dup X383.here hx rfl (hb hby at_144) rfl rfl k) ?_
    show own_G p.tables e below s _ _ _ (T383.setTop (mkF m 145 #[.val (.int p1), .val (.int p2), .val (.int p3), .val (.int p4), .val (.int p5), .val (.int p6), .val (.int g1), .val (.int g2), .val (.int (1 : Int32)), .val (.int k0), .val (.int k1), .val (.int k2), .val (.double d374), .second, .val (.double d376), .second, .val (.double d378), .second, .val (.double d379), .second, .val (.double d380), .second, .val (.double d381), .second, .val (.double d382), .second, .val (.long (eu.toInt64)), .second, .unset, .unset, .unset, .unset, .unset] [(.ref b383), (.ref b383)]))
    refine own_go (fun t k => XS.iconst X383.here hx rfl (hb hby at_145) k) ?_
    show own_G p.tables e below s _ _ _ (T383.setTop (mkF m 146 #[.val (.int p1), .val (.int p2), .val (.int p3), .val (.int p4), .val (.int p5), .val (.int p6), .val (.int g1), .val (.int g2), .val (.int (1 : Int32)), .val (.int k0), .val (.int k1), .val (.int k2), .val (.double d374), .second, .val (.double d376), .second, .val (.double d378), .second, .val (.double d379), .second, .val (.double d380), .second, .val (.double d381), .second, .val (.double d382), .second, .val (.long (eu.toInt64)), .second, .unset, .unset, .unset, .unset, .unset] [(.int (0 : Int32)), (.ref b383), (.ref b383)]))
    refine own_go (fun t k => XS.dload X383.here hx rfl (hb hby at_146) rfl k) ?_
    show own_G p.tables e below s _ _ _ (T383.setTop (mkF m 148 #[.val (.int p1), .val (.int p2), .val (.int p3), .val (.int p4), .val (.int p5), .val (.int p6), .val (.int g1), .val (.int g2), .val (.int (1 : Int32)), .val (.int k0), .val (.int k1), .val (.int k2), .val (.double d374), .second, .val (.double d376), .second, .val (.double d378), .second, .val (.double d379), .second, .val (.double d380), .second, .val (.double d381), .second, .val (.double d382), .second, .val (.long (eu.toInt64)), .second, .unset, .unset, .unset, .unset, .unset] [(.double d379), (.int (0 : Int32)), (.ref b383), (.ref b383)]))
    obtain ⟨cl387, Ar387, q387, S387, NN387, HH387, GG387⟩ := v386
    have hin387 : ¬ ((0 : Int32) < 0 ∨ cl387.slots.size ≤ ((0 : Int32)).toNatClampNeg) := inb_of S387 ⟨by decide, by decide⟩
    obtain ⟨T387, h387, X387, e387, W387, st387⟩ := stD X383 hx hZ e383 Ar387 (j := (0 : Int32)) hin387 (g := (mkF m 148 #[.val (.int p1), .val (.int p2), .val (.int p3), .val (.int p4), .val (.int p5), .val (.int p6), .val (.int g1), .val (.int g2), .val (.int (1 : Int32)), .val (.int k0), .val (.int k1), .val (.int k2), .val (.double d374), .second, .val (.double d376), .second, .val (.double d378), .second, .val (.double d379), .second, .val (.double d380), .second, .val (.double d381), .second, .val (.double d382), .second, .val (.long (eu.toInt64)), .second, .unset, .unset, .unset, .unset, .unset] [(.double d379), (.int (0 : Int32)), (.ref b383), (.ref b383)])) rfl rfl (hb hby at_148)
    refine own_go st387 ?_
    have v388 : Arv Z h387 b383 k383 .double (2 : Int32) [(.double d379), (.double 0)] (.double 0) := Arv.set Ar387 q387 S387 NN387 HH387 GG387 rfl W387 0 rfl (Nat.le_of_ble_eq_true rfl)
    have z389 := Nat.le_trans z385 (Keep.of_wr W387).1
    have N387 := Fr.snoc X387 N0 g384
    show own_G p.tables e below s _ _ _ (T387.setTop (mkF m 149 #[.val (.int p1), .val (.int p2), .val (.int p3), .val (.int p4), .val (.int p5), .val (.int p6), .val (.int g1), .val (.int g2), .val (.int (1 : Int32)), .val (.int k0), .val (.int k1), .val (.int k2), .val (.double d374), .second, .val (.double d376), .second, .val (.double d378), .second, .val (.double d379), .second, .val (.double d380), .second, .val (.double d381), .second, .val (.double d382), .second, .val (.long (eu.toInt64)), .second, .unset, .unset, .unset, .unset, .unset] [(.ref b383)]))
    refine own_go (fun t k => XS.dup X387.here hx rfl (hb hby at_149) rfl rfl k) ?_
    show own_G p.tables e below s _ _ _ (T387.setTop (mkF m 150 #[.val (.int p1), .val (.int p2), .val (.int p3), .val (.int p4), .val (.int p5), .val (.int p6), .val (.int g1), .val (.int g2), .val (.int (1 : Int32)), .val (.int k0), .val (.int k1), .val (.int k2), .val (.double d374), .second, .val (.double d376), .second, .val (.double d378), .second, .val (.double d379), .second, .val (.double d380), .second, .val (.double d381), .second, .val (.double d382), .second, .val (.long (eu.toInt64)), .second, .unset, .unset, .unset, .unset, .unset] [(.ref b383), (.ref b383)]))
    refine own_go (fun t k => XS.iconst X387.here hx rfl (hb hby at_150) k) ?_
    show own_G p.tables e below s _ _ _ (T387.setTop (mkF m 151 #[.val (.int p1), .val (.int p2), .val (.int p3), .val (.int p4), .val (.int p5), .val (.int p6), .val (.int g1), .val (.int g2), .val (.int (1 : Int32)), .val (.int k0), .val (.int k1), .val (.int k2), .val (.double d374), .second, .val (.double d376), .second, .val (.double d378), .second, .val (.double d379), .second, .val (.double d380), .second, .val (.double d381), .second, .val (.double d382), .second, .val (.long (eu.toInt64)), .second, .unset, .unset, .unset, .unset, .unset] [(.int (1 : Int32)), (.ref b383), (.ref b383)]))
    refine own_go (fun t k => XS.dload X387.here hx rfl (hb hby at_151) rfl k) ?_
    show own_G p.tables e below s _ _ _ (T387.setTop (mkF m 153 #[.val (.int p1), .val (.int p2), .val (.int p3), .val (.int p4), .val (.int p5), .val (.int p6), .val (.int g1), .val (.int g2), .val (.int (1 : Int32)), .val (.int k0), .val (.int k1), .val (.int k2), .val (.double d374), .second, .val (.double d376), .second, .val (.double d378), .second, .val (.double d379), .second, .val (.double d380), .second, .val (.double d381), .second, .val (.double d382), .second, .val (.long (eu.toInt64)), .second, .unset, .unset, .unset, .unset, .unset] [(.double d374), (.int (1 : Int32)), (.ref b383), (.ref b383)]))
    obtain ⟨cl390, Ar390, q390, S390, NN390, HH390, GG390⟩ := v388
    have hin390 : ¬ ((1 : Int32) < 0 ∨ cl390.slots.size ≤ ((1 : Int32)).toNatClampNeg) := inb_of S390 ⟨by decide, by decide⟩
    obtain ⟨T390, h390, X390, e390, W390, st390⟩ := stD X387 hx hZ e387 Ar390 (j := (1 : Int32)) hin390 (g := (mkF m 153 #[.val (.int p1), .val (.int p2), .val (.int p3), .val (.int p4), .val (.int p5), .val (.int p6), .val (.int g1), .val (.int g2), .val (.int (1 : Int32)), .val (.int k0), .val (.int k1), .val (.int k2), .val (.double d374), .second, .val (.double d376), .second, .val (.double d378), .second, .val (.double d379), .second, .val (.double d380), .second, .val (.double d381), .second, .val (.double d382), .second, .val (.long (eu.toInt64)), .second, .unset, .unset, .unset, .unset, .unset] [(.double d374), (.int (1 : Int32)), (.ref b383), (.ref b383)])) rfl rfl (hb hby at_153)
    refine own_go st390 ?_
    have v391 : Arv Z h390 b383 k383 .double (2 : Int32) [(.double d379), (.double d374)] (.double 0) := Arv.set Ar390 q390 S390 NN390 HH390 GG390 rfl W390 1 rfl (Nat.le_of_ble_eq_true rfl)
    have z392 := Nat.le_trans z389 (Keep.of_wr W390).1
    have N390 := Fr.snoc X390 N387 g384
    show own_G p.tables e below s _ _ _ (T390.setTop (mkF m 154 #[.val (.int p1), .val (.int p2), .val (.int p3), .val (.int p4), .val (.int p5), .val (.int p6), .val (.int g1), .val (.int g2), .val (.int (1 : Int32)), .val (.int k0), .val (.int k1), .val (.int k2), .val (.double d374), .second, .val (.double d376), .second, .val (.double d378), .second, .val (.double d379), .second, .val (.double d380), .second, .val (.double d381), .second, .val (.double d382), .second, .val (.long (eu.toInt64)), .second, .unset, .unset, .unset, .unset, .unset] [(.ref b383)]))
    obtain ⟨_, _, ⟨T393, L393, k393, n393⟩, -, X393, ⟨Lc393, hQ393, l393, y393, z393⟩, st393⟩ := Jvm.LawKit.callS X390 hx (y := (⟨"com/example/options_into_arguments/optionsintoarguments/quality/Curve", "through", "([D)Lcom/example/options_into_arguments/optionsintoarguments/quality/Curve;"⟩ : MethodName)) hown (mvT hZ (hw _ (List.mem_of_getElem? (i := 4) rfl))) (mvT hZ (hw _ (List.mem_of_getElem? (i := 5) rfl))) (mvT hZ (hw _ (List.mem_of_getElem? (i := 6) rfl))) (mvT hZ (hw _ (List.mem_of_getElem? (i := 7) rfl))) (by decide) (backOf (W := 0) (rmt1 l Z a0 hw [] b383 k383 d379 d374 (8 * (p1).toInt) (2 * k0.toInt) h390 n0 z392 v391 D379 D374  (by omega)) hZ (hw _ (List.mem_of_getElem? (i := 7) rfl)) (hw _ (List.mem_of_getElem? (i := 6) rfl)) (by decide) (by decide)) (g := (mkF m 154 #[.val (.int p1), .val (.int p2), .val (.int p3), .val (.int p4), .val (.int p5), .val (.int p6), .val (.int g1), .val (.int g2), .val (.int (1 : Int32)), .val (.int k0), .val (.int k1), .val (.int k2), .val (.double d374), .second, .val (.double d376), .second, .val (.double d378), .second, .val (.double d379), .second, .val (.double d380), .second, .val (.double d381), .second, .val (.double d382), .second, .val (.long (eu.toInt64)), .second, .unset, .unset, .unset, .unset, .unset] [(.ref b383)])) rfl (by rw [hml]; rfl) (argsL := [(.ref b383)]) (rest := []) (lenOf pd___D_Lcom_example_options_into_arguments_optionsintoarguments_quality_Curve_ rfl) rfl (by show 2 * 0 + _ ≤ _; exact Nat.le_of_eq rfl) (hb hby at_154) (fun _ _ => ⟨rfl, e390, (by decide : 1 + 3 ≤ _), (by decide : 2 + 4 ≤ _)⟩)
    dsimp only [Pt.U, Pt.locs, Pt.cells, Pt.slots] at X393 l393 y393 z393 st393 hQ393
    subst l393 y393 z393
    obtain ⟨⟨b393, xa393, ya393, kx393, ky393, rfl, Eb393, Fx393, Fy393, Vx393, Vy393⟩, N393q, K393⟩ := hQ393
    have N393 := Fr.app N390 N393q
    refine own_go st393 ?_
    have f394 := v391.keep K393 (fun q => nomatch q)
    have z395 := Nat.le_trans z392 K393.1
    show own_G p.tables e below s _ _ _ (T393.setTop (mkF m 157 #[.val (.int p1), .val (.int p2), .val (.int p3), .val (.int p4), .val (.int p5), .val (.int p6), .val (.int g1), .val (.int g2), .val (.int (1 : Int32)), .val (.int k0), .val (.int k1), .val (.int k2), .val (.double d374), .second, .val (.double d376), .second, .val (.double d378), .second, .val (.double d379), .second, .val (.double d380), .second, .val (.double d381), .second, .val (.double d382), .second, .val (.long (eu.toInt64)), .second, .unset, .unset, .unset, .unset, .unset] [(.ref b393)]))
    refine own_go (fun t k => XS.astore X393.here hx rfl (hb hby at_157) rfl rfl (l' := #[.val (.int p1), .val (.int p2), .val (.int p3), .val (.int p4), .val (.int p5), .val (.int p6), .val (.int g1), .val (.int g2), .val (.int (1 : Int32)), .val (.int k0), .val (.int k1), .val (.int k2), .val (.double d374), .second, .val (.double d376), .second, .val (.double d378), .second, .val (.double d379), .second, .val (.double d380), .second, .val (.double d381), .second, .val (.double d382), .second, .val (.long (eu.toInt64)), .second, .val (.ref b393), .unset, .unset, .unset, .unset]) rfl k) ?_
    show own_G p.tables e below s _ _ _ (T393.setTop (mkF m 159 #[.val (.int p1), .val (.int p2), .val (.int p3), .val (.int p4), .val (.int p5), .val (.int p6), .val (.int g1), .val (.int g2), .val (.int (1 : Int32)), .val (.int k0), .val (.int k1), .val (.int k2), .val (.double d374), .second, .val (.double d376), .second, .val (.double d378), .second, .val (.double d379), .second, .val (.double d380), .second, .val (.double d381), .second, .val (.double d382), .second, .val (.long (eu.toInt64)), .second, .val (.ref b393), .unset, .unset, .unset, .unset] []))
    refine own_go (fun t k => XS.aload X393.here hx rfl (hb hby at_159) rfl rfl k) ?_
    show own_G p.tables e below s _ _ _ (T393.setTop (mkF m 161 #[.val (.int p1), .val (.int p2), .val (.int p3), .val (.int p4), .val (.int p5), .val (.int p6), .val (.int g1), .val (.int g2), .val (.int (1 : Int32)), .val (.int k0), .val (.int k1), .val (.int k2), .val (.double d374), .second, .val (.double d376), .second, .val (.double d378), .second, .val (.double d379), .second, .val (.double d380), .second, .val (.double d381), .second, .val (.double d382), .second, .val (.long (eu.toInt64)), .second, .val (.ref b393), .unset, .unset, .unset, .unset] [(.ref b393)]))
    refine own_go (fun t k => XS.dload X393.here hx rfl (hb hby at_161) rfl k) ?_
    show own_G p.tables e below s _ _ _ (T393.setTop (mkF m 163 #[.val (.int p1), .val (.int p2), .val (.int p3), .val (.int p4), .val (.int p5), .val (.int p6), .val (.int g1), .val (.int g2), .val (.int (1 : Int32)), .val (.int k0), .val (.int k1), .val (.int k2), .val (.double d374), .second, .val (.double d376), .second, .val (.double d378), .second, .val (.double d379), .second, .val (.double d380), .second, .val (.double d381), .second, .val (.double d382), .second, .val (.long (eu.toInt64)), .second, .val (.ref b393), .unset, .unset, .unset, .unset] [(.double d382), (.ref b393)]))
    obtain ⟨cq396, kq396, q396a, q396b, q396c⟩ := isOf hZ rfl Eb393
    obtain ⟨_, _, ⟨T396, L396, k396, n396⟩, -, X396, ⟨Lc396, hQ396, l396, y396, z396⟩, st396⟩ := X393.virtualBack hx (y := (⟨"com/example/options_into_arguments/optionsintoarguments/quality/Curve", "at", "(D)D"⟩ : MethodName)) (z := (⟨"com/example/options_into_arguments/optionsintoarguments/quality/Curve", "at", "(D)D"⟩ : MethodName)) hown (mvT hZ (hw _ (List.mem_of_getElem? (i := 20) rfl))) (mvT hZ (hw _ (List.mem_of_getElem? (i := 21) rfl))) (notFace_of_selects (args := #[]) (mvT hZ (hw _ (List.mem_of_getElem? (i := 23) rfl)))) (mvT hZ (hw _ (List.mem_of_getElem? (i := 23) rfl))) (mvT hZ (hw _ (List.mem_of_getElem? (i := 22) rfl))) (by decide) (backOf (W := 0) (rmA1 l Z a0 hw [] b393 xa393 ya393 kx393 ky393 d382 (8 * (p1.toInt - eb.toInt)) d379 d374 (8 * (p1).toInt) (2 * k0.toInt) T393.heap n0 z395 D382 D379 D374 Fx393 Fy393 Vx393 Vy393 (by omega)) hZ (hw _ (List.mem_of_getElem? (i := 24) rfl)) (hw _ (List.mem_of_getElem? (i := 6) rfl)) (by decide) (by decide)) q396a q396c (g := (mkF m 163 #[.val (.int p1), .val (.int p2), .val (.int p3), .val (.int p4), .val (.int p5), .val (.int p6), .val (.int g1), .val (.int g2), .val (.int (1 : Int32)), .val (.int k0), .val (.int k1), .val (.int k2), .val (.double d374), .second, .val (.double d376), .second, .val (.double d378), .second, .val (.double d379), .second, .val (.double d380), .second, .val (.double d381), .second, .val (.double d382), .second, .val (.long (eu.toInt64)), .second, .val (.ref b393), .unset, .unset, .unset, .unset] [(.double d382), (.ref b393)])) rfl (by rw [hml]; rfl) (Steps.refl _) (argsL := [(.double d382)]) (rest := []) (lenOf pd__D_D rfl) rfl (by show 2 * 0 + _ ≤ _; exact Nat.le_of_eq rfl) (hb hby at_163) (fun _ _ => ⟨rfl, rfl, (by decide : 4 + 0 ≤ _), (by decide : 6 + 0 ≤ _)⟩)
    dsimp only [Pt.U, Pt.locs, Pt.cells, Pt.slots] at X396 l396 y396 z396 st396 hQ396
    subst l396 y396 z396
    obtain ⟨⟨w396, rfl, hw396⟩, N396q, hh396⟩ := hQ396
    have N396 := Fr.app N393 N396q
    refine own_go (fun t k => st396.trans k) ?_
    show own_G p.tables e below s _ _ _ (T396.setTop (mkF m 166 #[.val (.int p1), .val (.int p2), .val (.int p3), .val (.int p4), .val (.int p5), .val (.int p6), .val (.int g1), .val (.int g2), .val (.int (1 : Int32)), .val (.int k0), .val (.int k1), .val (.int k2), .val (.double d374), .second, .val (.double d376), .second, .val (.double d378), .second, .val (.double d379), .second, .val (.double d380), .second, .val (.double d381), .second, .val (.double d382), .second, .val (.long (eu.toInt64)), .second, .val (.ref b393), .unset, .unset, .unset, .unset] [(.double w396)]))
    refine own_go (fun t k => XS.dload X396.here hx rfl (hb hby at_166) rfl k) ?_
    show own_G p.tables e below s _ _ _ (T396.setTop (mkF m 168 #[.val (.int p1), .val (.int p2), .val (.int p3), .val (.int p4), .val (.int p5), .val (.int p6), .val (.int g1), .val (.int g2), .val (.int (1 : Int32)), .val (.int k0), .val (.int k1), .val (.int k2), .val (.double d374), .second, .val (.double d376), .second, .val (.double d378), .second, .val (.double d379), .second, .val (.double d380), .second, .val (.double d381), .second, .val (.double d382), .second, .val (.long (eu.toInt64)), .second, .val (.ref b393), .unset, .unset, .unset, .unset] [(.double d374), (.double w396)]))
    refine own_go (fun t k => XS.dcmpS X396.here hx rfl (hb hby at_168) rfl (own_cmpv hw396 D374) k) ?_
    show own_G p.tables e below s _ _ _ (T396.setTop (mkF m 169 #[.val (.int p1), .val (.int p2), .val (.int p3), .val (.int p4), .val (.int p5), .val (.int p6), .val (.int g1), .val (.int g2), .val (.int (1 : Int32)), .val (.int k0), .val (.int k1), .val (.int k2), .val (.double d374), .second, .val (.double d376), .second, .val (.double d378), .second, .val (.double d379), .second, .val (.double d380), .second, .val (.double d381), .second, .val (.double d382), .second, .val (.long (eu.toInt64)), .second, .val (.ref b393), .unset, .unset, .unset, .unset] [(.int (own_c (2 * k0.toInt) (2 * k0.toInt)))]))
    refine own_go (fun t k => XS.ifNo X396.here hx rfl (hb hby at_169) rfl (Jvm.Free.XT.i0_ne_f (own_c_eq (by omega))) k) ?_
    show own_G p.tables e below s _ _ _ (T396.setTop (mkF m 172 #[.val (.int p1), .val (.int p2), .val (.int p3), .val (.int p4), .val (.int p5), .val (.int p6), .val (.int g1), .val (.int g2), .val (.int (1 : Int32)), .val (.int k0), .val (.int k1), .val (.int k2), .val (.double d374), .second, .val (.double d376), .second, .val (.double d378), .second, .val (.double d379), .second, .val (.double d380), .second, .val (.double d381), .second, .val (.double d382), .second, .val (.long (eu.toInt64)), .second, .val (.ref b393), .unset, .unset, .unset, .unset] []))
    refine own_go (fun t k => XS.aload X396.here hx rfl (hb hby at_172) rfl rfl k) ?_
    show own_G p.tables e below s _ _ _ (T396.setTop (mkF m 174 #[.val (.int p1), .val (.int p2), .val (.int p3), .val (.int p4), .val (.int p5), .val (.int p6), .val (.int g1), .val (.int g2), .val (.int (1 : Int32)), .val (.int k0), .val (.int k1), .val (.int k2), .val (.double d374), .second, .val (.double d376), .second, .val (.double d378), .second, .val (.double d379), .second, .val (.double d380), .second, .val (.double d381), .second, .val (.double d382), .second, .val (.long (eu.toInt64)), .second, .val (.ref b393), .unset, .unset, .unset, .unset] [(.ref b393)]))
    refine own_go (fun t k => XS.dload X396.here hx rfl (hb hby at_174) rfl k) ?_
    show own_G p.tables e below s _ _ _ (T396.setTop (mkF m 176 #[.val (.int p1), .val (.int p2), .val (.int p3), .val (.int p4), .val (.int p5), .val (.int p6), .val (.int g1), .val (.int g2), .val (.int (1 : Int32)), .val (.int k0), .val (.int k1), .val (.int k2), .val (.double d374), .second, .val (.double d376), .second, .val (.double d378), .second, .val (.double d379), .second, .val (.double d380), .second, .val (.double d381), .second, .val (.double d382), .second, .val (.long (eu.toInt64)), .second, .val (.ref b393), .unset, .unset, .unset, .unset] [(.double d379), (.ref b393)]))
    obtain ⟨cq397, kq397, q397a, q397b, q397c⟩ := isOf hZ hh396 Eb393
    obtain ⟨_, _, ⟨T397, L397, k397, n397⟩, -, X397, ⟨Lc397, hQ397, l397, y397, z397⟩, st397⟩ := X396.virtualBack hx (y := (⟨"com/example/options_into_arguments/optionsintoarguments/quality/Curve", "at", "(D)D"⟩ : MethodName)) (z := (⟨"com/example/options_into_arguments/optionsintoarguments/quality/Curve", "at", "(D)D"⟩ : MethodName)) hown (mvT hZ (hw _ (List.mem_of_getElem? (i := 20) rfl))) (mvT hZ (hw _ (List.mem_of_getElem? (i := 21) rfl))) (notFace_of_selects (args := #[]) (mvT hZ (hw _ (List.mem_of_getElem? (i := 23) rfl)))) (mvT hZ (hw _ (List.mem_of_getElem? (i := 23) rfl))) (mvT hZ (hw _ (List.mem_of_getElem? (i := 22) rfl))) (by decide) (backOf (W := 0) (rmA1 l Z a0 hw [] b393 xa393 ya393 kx393 ky393 d379 (8 * (p1).toInt) d379 d374 (8 * (p1).toInt) (2 * k0.toInt) T393.heap n0 z395 D379 D379 D374 Fx393 Fy393 Vx393 Vy393 (by omega)) hZ (hw _ (List.mem_of_getElem? (i := 24) rfl)) (hw _ (List.mem_of_getElem? (i := 6) rfl)) (by decide) (by decide)) q397a q397c (g := (mkF m 176 #[.val (.int p1), .val (.int p2), .val (.int p3), .val (.int p4), .val (.int p5), .val (.int p6), .val (.int g1), .val (.int g2), .val (.int (1 : Int32)), .val (.int k0), .val (.int k1), .val (.int k2), .val (.double d374), .second, .val (.double d376), .second, .val (.double d378), .second, .val (.double d379), .second, .val (.double d380), .second, .val (.double d381), .second, .val (.double d382), .second, .val (.long (eu.toInt64)), .second, .val (.ref b393), .unset, .unset, .unset, .unset] [(.double d379), (.ref b393)])) rfl (by rw [hml]; rfl) (Steps.refl _) (argsL := [(.double d379)]) (rest := []) (lenOf pd__D_D rfl) rfl (by show 2 * 0 + _ ≤ _; exact Nat.le_of_eq rfl) (hb hby at_176) (fun _ _ => ⟨rfl, hh396, (by decide : 4 + 0 ≤ _), (by decide : 6 + 0 ≤ _)⟩)
    dsimp only [Pt.U, Pt.locs, Pt.cells, Pt.slots] at X397 l397 y397 z397 st397 hQ397
    subst l397 y397 z397
    obtain ⟨⟨w397, rfl, hw397⟩, N397q, hh397⟩ := hQ397
    have N397 := Fr.app N396 N397q
    refine own_go (fun t k => st397.trans k) ?_
    show own_G p.tables e below s _ _ _ (T397.setTop (mkF m 179 #[.val (.int p1), .val (.int p2), .val (.int p3), .val (.int p4), .val (.int p5), .val (.int p6), .val (.int g1), .val (.int g2), .val (.int (1 : Int32)), .val (.int k0), .val (.int k1), .val (.int k2), .val (.double d374), .second, .val (.double d376), .second, .val (.double d378), .second, .val (.double d379), .second, .val (.double d380), .second, .val (.double d381), .second, .val (.double d382), .second, .val (.long (eu.toInt64)), .second, .val (.ref b393), .unset, .unset, .unset, .unset] [(.double w397)]))
    refine own_go (fun t k => XS.dload X397.here hx rfl (hb hby at_179) rfl k) ?_
    show own_G p.tables e below s _ _ _ (T397.setTop (mkF m 181 #[.val (.int p1), .val (.int p2), .val (.int p3), .val (.int p4), .val (.int p5), .val (.int p6), .val (.int g1), .val (.int g2), .val (.int (1 : Int32)), .val (.int k0), .val (.int k1), .val (.int k2), .val (.double d374), .second, .val (.double d376), .second, .val (.double d378), .second, .val (.double d379), .second, .val (.double d380), .second, .val (.double d381), .second, .val (.double d382), .second, .val (.long (eu.toInt64)), .second, .val (.ref b393), .unset, .unset, .unset, .unset] [(.double d374), (.double w397)]))
    refine own_go (fun t k => XS.dcmpS X397.here hx rfl (hb hby at_181) rfl (own_cmpv hw397 D374) k) ?_
    show own_G p.tables e below s _ _ _ (T397.setTop (mkF m 182 #[.val (.int p1), .val (.int p2), .val (.int p3), .val (.int p4), .val (.int p5), .val (.int p6), .val (.int g1), .val (.int g2), .val (.int (1 : Int32)), .val (.int k0), .val (.int k1), .val (.int k2), .val (.double d374), .second, .val (.double d376), .second, .val (.double d378), .second, .val (.double d379), .second, .val (.double d380), .second, .val (.double d381), .second, .val (.double d382), .second, .val (.long (eu.toInt64)), .second, .val (.ref b393), .unset, .unset, .unset, .unset] [(.int (own_c (2 * k0.toInt) (2 * k0.toInt)))]))
    refine own_go (fun t k => XS.ifNo X397.here hx rfl (hb hby at_182) rfl (Jvm.Free.XT.i0_ne_f (own_c_eq (by omega))) k) ?_
    show own_G p.tables e below s _ _ _ (T397.setTop (mkF m 185 #[.val (.int p1), .val (.int p2), .val (.int p3), .val (.int p4), .val (.int p5), .val (.int p6), .val (.int g1), .val (.int g2), .val (.int (1 : Int32)), .val (.int k0), .val (.int k1), .val (.int k2), .val (.double d374), .second, .val (.double d376), .second, .val (.double d378), .second, .val (.double d379), .second, .val (.double d380), .second, .val (.double d381), .second, .val (.double d382), .second, .val (.long (eu.toInt64)), .second, .val (.ref b393), .unset, .unset, .unset, .unset] []))
    refine own_go (fun t k => XS.aload X397.here hx rfl (hb hby at_185) rfl rfl k) ?_
    show own_G p.tables e below s _ _ _ (T397.setTop (mkF m 187 #[.val (.int p1), .val (.int p2), .val (.int p3), .val (.int p4), .val (.int p5), .val (.int p6), .val (.int g1), .val (.int g2), .val (.int (1 : Int32)), .val (.int k0), .val (.int k1), .val (.int k2), .val (.double d374), .second, .val (.double d376), .second, .val (.double d378), .second, .val (.double d379), .second, .val (.double d380), .second, .val (.double d381), .second, .val (.double d382), .second, .val (.long (eu.toInt64)), .second, .val (.ref b393), .unset, .unset, .unset, .unset] [(.ref b393)]))
    refine own_go (fun t k => XS.iloadN X397.here hx rfl (hb hby at_187) rfl k) ?_
    show own_G p.tables e below s _ _ _ (T397.setTop (mkF m 188 #[.val (.int p1), .val (.int p2), .val (.int p3), .val (.int p4), .val (.int p5), .val (.int p6), .val (.int g1), .val (.int g2), .val (.int (1 : Int32)), .val (.int k0), .val (.int k1), .val (.int k2), .val (.double d374), .second, .val (.double d376), .second, .val (.double d378), .second, .val (.double d379), .second, .val (.double d380), .second, .val (.double d381), .second, .val (.double d382), .second, .val (.long (eu.toInt64)), .second, .val (.ref b393), .unset, .unset, .unset, .unset] [(.int p1), (.ref b393)]))
    refine own_go (fun t k => XS.i2l X397.here hx rfl (hb hby at_188) rfl k) ?_
    show own_G p.tables e below s _ _ _ (T397.setTop (mkF m 189 #[.val (.int p1), .val (.int p2), .val (.int p3), .val (.int p4), .val (.int p5), .val (.int p6), .val (.int g1), .val (.int g2), .val (.int (1 : Int32)), .val (.int k0), .val (.int k1), .val (.int k2), .val (.double d374), .second, .val (.double d376), .second, .val (.double d378), .second, .val (.double d379), .second, .val (.double d380), .second, .val (.double d381), .second, .val (.double d382), .second, .val (.long (eu.toInt64)), .second, .val (.ref b393), .unset, .unset, .unset, .unset] [(.long (p1.toInt64)), (.ref b393)]))
    refine own_go (fun t k => XS.lload X397.here hx rfl (hb hby at_189) rfl k) ?_
    show own_G p.tables e below s _ _ _ (T397.setTop (mkF m 191 #[.val (.int p1), .val (.int p2), .val (.int p3), .val (.int p4), .val (.int p5), .val (.int p6), .val (.int g1), .val (.int g2), .val (.int (1 : Int32)), .val (.int k0), .val (.int k1), .val (.int k2), .val (.double d374), .second, .val (.double d376), .second, .val (.double d378), .second, .val (.double d379), .second, .val (.double d380), .second, .val (.double d381), .second, .val (.double d382), .second, .val (.long (eu.toInt64)), .second, .val (.ref b393), .unset, .unset, .unset, .unset] [(.long (eu.toInt64)), (.long (p1.toInt64)), (.ref b393)]))
    refine own_go (fun t k => XS.ladd X397.here hx rfl (hb hby at_191) rfl k) ?_
    show own_G p.tables e below s _ _ _ (T397.setTop (mkF m 192 #[.val (.int p1), .val (.int p2), .val (.int p3), .val (.int p4), .val (.int p5), .val (.int p6), .val (.int g1), .val (.int g2), .val (.int (1 : Int32)), .val (.int k0), .val (.int k1), .val (.int k2), .val (.double d374), .second, .val (.double d376), .second, .val (.double d378), .second, .val (.double d379), .second, .val (.double d380), .second, .val (.double d381), .second, .val (.double d382), .second, .val (.long (eu.toInt64)), .second, .val (.ref b393), .unset, .unset, .unset, .unset] [(.long ((p1.toInt64) + (eu.toInt64))), (.ref b393)]))
    obtain ⟨d398, hd398⟩ : ∃ z, Jvm.FP.l2d ((p1.toInt64) + (eu.toInt64)) = z := ⟨_, rfl⟩
    have D398 : own_E (8 * (p1.toInt + eu.toInt)) d398 := by rw [← hd398]; exact own_lE (own_add64 (v := p1.toInt + eu.toInt) (by rw [own_w, own_w]) (by omega) (by omega)) (by omega)
    refine own_go (fun t k => XS.l2dS X397.here hx rfl (hb hby at_192) rfl hd398 k) ?_
    show own_G p.tables e below s _ _ _ (T397.setTop (mkF m 193 #[.val (.int p1), .val (.int p2), .val (.int p3), .val (.int p4), .val (.int p5), .val (.int p6), .val (.int g1), .val (.int g2), .val (.int (1 : Int32)), .val (.int k0), .val (.int k1), .val (.int k2), .val (.double d374), .second, .val (.double d376), .second, .val (.double d378), .second, .val (.double d379), .second, .val (.double d380), .second, .val (.double d381), .second, .val (.double d382), .second, .val (.long (eu.toInt64)), .second, .val (.ref b393), .unset, .unset, .unset, .unset] [(.double d398), (.ref b393)]))
    obtain ⟨cq399, kq399, q399a, q399b, q399c⟩ := isOf hZ hh397 Eb393
    obtain ⟨_, _, ⟨T399, L399, k399, n399⟩, -, X399, ⟨Lc399, hQ399, l399, y399, z399⟩, st399⟩ := X397.virtualBack hx (y := (⟨"com/example/options_into_arguments/optionsintoarguments/quality/Curve", "at", "(D)D"⟩ : MethodName)) (z := (⟨"com/example/options_into_arguments/optionsintoarguments/quality/Curve", "at", "(D)D"⟩ : MethodName)) hown (mvT hZ (hw _ (List.mem_of_getElem? (i := 20) rfl))) (mvT hZ (hw _ (List.mem_of_getElem? (i := 21) rfl))) (notFace_of_selects (args := #[]) (mvT hZ (hw _ (List.mem_of_getElem? (i := 23) rfl)))) (mvT hZ (hw _ (List.mem_of_getElem? (i := 23) rfl))) (mvT hZ (hw _ (List.mem_of_getElem? (i := 22) rfl))) (by decide) (backOf (W := 0) (rmB1 l Z a0 hw [] b393 xa393 ya393 kx393 ky393 d398 (8 * (p1.toInt + eu.toInt)) d379 d374 (8 * (p1).toInt) (2 * k0.toInt) T393.heap n0 z395 D398 D379 D374 Fx393 Fy393 Vx393 Vy393 (by omega) (by omega)) hZ (hw _ (List.mem_of_getElem? (i := 24) rfl)) (hw _ (List.mem_of_getElem? (i := 6) rfl)) (by decide) (by decide)) q399a q399c (g := (mkF m 193 #[.val (.int p1), .val (.int p2), .val (.int p3), .val (.int p4), .val (.int p5), .val (.int p6), .val (.int g1), .val (.int g2), .val (.int (1 : Int32)), .val (.int k0), .val (.int k1), .val (.int k2), .val (.double d374), .second, .val (.double d376), .second, .val (.double d378), .second, .val (.double d379), .second, .val (.double d380), .second, .val (.double d381), .second, .val (.double d382), .second, .val (.long (eu.toInt64)), .second, .val (.ref b393), .unset, .unset, .unset, .unset] [(.double d398), (.ref b393)])) rfl (by rw [hml]; rfl) (Steps.refl _) (argsL := [(.double d398)]) (rest := []) (lenOf pd__D_D rfl) rfl (by show 2 * 0 + _ ≤ _; exact Nat.le_of_eq rfl) (hb hby at_193) (fun _ _ => ⟨rfl, hh397, (by decide : 4 + 0 ≤ _), (by decide : 6 + 0 ≤ _)⟩)
    dsimp only [Pt.U, Pt.locs, Pt.cells, Pt.slots] at X399 l399 y399 z399 st399 hQ399
    subst l399 y399 z399
    obtain ⟨⟨w399, rfl, hw399⟩, N399q, hh399⟩ := hQ399
    have N399 := Fr.app N397 N399q
    refine own_go (fun t k => st399.trans k) ?_
    show own_G p.tables e below s _ _ _ (T399.setTop (mkF m 196 #[.val (.int p1), .val (.int p2), .val (.int p3), .val (.int p4), .val (.int p5), .val (.int p6), .val (.int g1), .val (.int g2), .val (.int (1 : Int32)), .val (.int k0), .val (.int k1), .val (.int k2), .val (.double d374), .second, .val (.double d376), .second, .val (.double d378), .second, .val (.double d379), .second, .val (.double d380), .second, .val (.double d381), .second, .val (.double d382), .second, .val (.long (eu.toInt64)), .second, .val (.ref b393), .unset, .unset, .unset, .unset] [(.double w399)]))
    refine own_go (fun t k => XS.dload X399.here hx rfl (hb hby at_196) rfl k) ?_
    show own_G p.tables e below s _ _ _ (T399.setTop (mkF m 198 #[.val (.int p1), .val (.int p2), .val (.int p3), .val (.int p4), .val (.int p5), .val (.int p6), .val (.int g1), .val (.int g2), .val (.int (1 : Int32)), .val (.int k0), .val (.int k1), .val (.int k2), .val (.double d374), .second, .val (.double d376), .second, .val (.double d378), .second, .val (.double d379), .second, .val (.double d380), .second, .val (.double d381), .second, .val (.double d382), .second, .val (.long (eu.toInt64)), .second, .val (.ref b393), .unset, .unset, .unset, .unset] [(.double d374), (.double w399)]))
    refine own_go (fun t k => XS.dcmpS X399.here hx rfl (hb hby at_198) rfl (own_cmpv hw399 D374) k) ?_
    show own_G p.tables e below s _ _ _ (T399.setTop (mkF m 199 #[.val (.int p1), .val (.int p2), .val (.int p3), .val (.int p4), .val (.int p5), .val (.int p6), .val (.int g1), .val (.int g2), .val (.int (1 : Int32)), .val (.int k0), .val (.int k1), .val (.int k2), .val (.double d374), .second, .val (.double d376), .second, .val (.double d378), .second, .val (.double d379), .second, .val (.double d380), .second, .val (.double d381), .second, .val (.double d382), .second, .val (.long (eu.toInt64)), .second, .val (.ref b393), .unset, .unset, .unset, .unset] [(.int (own_c (2 * k0.toInt) (2 * k0.toInt)))]))
    refine own_go (fun t k => XS.ifNo X399.here hx rfl (hb hby at_199) rfl (Jvm.Free.XT.i0_ne_f (own_c_eq (by omega))) k) ?_
    show own_G p.tables e below s _ _ _ (T399.setTop (mkF m 202 #[.val (.int p1), .val (.int p2), .val (.int p3), .val (.int p4), .val (.int p5), .val (.int p6), .val (.int g1), .val (.int g2), .val (.int (1 : Int32)), .val (.int k0), .val (.int k1), .val (.int k2), .val (.double d374), .second, .val (.double d376), .second, .val (.double d378), .second, .val (.double d379), .second, .val (.double d380), .second, .val (.double d381), .second, .val (.double d382), .second, .val (.long (eu.toInt64)), .second, .val (.ref b393), .unset, .unset, .unset, .unset] []))
    refine own_go (fun t k => XS.iconst X399.here hx rfl (hb hby at_202) k) ?_
    show own_G p.tables e below s _ _ _ (T399.setTop (mkF m 203 #[.val (.int p1), .val (.int p2), .val (.int p3), .val (.int p4), .val (.int p5), .val (.int p6), .val (.int g1), .val (.int g2), .val (.int (1 : Int32)), .val (.int k0), .val (.int k1), .val (.int k2), .val (.double d374), .second, .val (.double d376), .second, .val (.double d378), .second, .val (.double d379), .second, .val (.double d380), .second, .val (.double d381), .second, .val (.double d382), .second, .val (.long (eu.toInt64)), .second, .val (.ref b393), .unset, .unset, .unset, .unset] [(.int (1 : Int32))]))
    refine own_go (fun t k => XS.goto X399.here hx rfl (pc0 := 203) (pc' := 207) rfl (hb hby at_203) (by decide) (by decide) k) ?_
    show own_G p.tables e below s _ _ _ (T399.setTop (mkF m 207 #[.val (.int p1), .val (.int p2), .val (.int p3), .val (.int p4), .val (.int p5), .val (.int p6), .val (.int g1), .val (.int g2), .val (.int (1 : Int32)), .val (.int k0), .val (.int k1), .val (.int k2), .val (.double d374), .second, .val (.double d376), .second, .val (.double d378), .second, .val (.double d379), .second, .val (.double d380), .second, .val (.double d381), .second, .val (.double d382), .second, .val (.long (eu.toInt64)), .second, .val (.ref b393), .unset, .unset, .unset, .unset] [(.int (1 : Int32))]))
    exact own_retN X399 hx hlk (t := .boolean) (z' := (1 : Int32)) Bd.returns (by simp) (hb hby at_207) (rfl) (by rw [hh399]; exact ⟨rfl, N399⟩) (by decide) (by decide)
  · show own_G p.tables e below s _ _ _ (s₁.setTop (mkF m 138 #[.val (.int p1), .val (.int p2), .val (.int p3), .val (.int p4), .val (.int p5), .val (.int p6), .val (.int g1), .val (.int g2), .val (.int (2 : Int32)), .val (.int k0), .val (.int k1), .val (.int k2), .val (.double d374), .second, .val (.double d376), .second, .val (.double d378), .second, .val (.double d379), .second, .val (.double d380), .second, .val (.double d381), .second, .val (.double d382), .second, .val (.long (eu.toInt64)), .second, .unset, .unset, .unset, .unset, .unset] [(.int (1 : Int32)), (.int (2 : Int32))]))
    refine own_go (fun t k => XS.icmpYes X0.here hx rfl (pc0 := 138) (pc' := 208) rfl (hb hby at_138) rfl (by decide) (by decide) (by decide) k) ?_
    show own_G p.tables e below s _ _ _ (s₁.setTop (mkF m 208 #[.val (.int p1), .val (.int p2), .val (.int p3), .val (.int p4), .val (.int p5), .val (.int p6), .val (.int g1), .val (.int g2), .val (.int (2 : Int32)), .val (.int k0), .val (.int k1), .val (.int k2), .val (.double d374), .second, .val (.double d376), .second, .val (.double d378), .second, .val (.double d379), .second, .val (.double d380), .second, .val (.double d381), .second, .val (.double d382), .second, .val (.long (eu.toInt64)), .second, .unset, .unset, .unset, .unset, .unset] []))
    refine own_go (fun t k => XS.dload X0.here hx rfl (hb hby at_208) rfl k) ?_
    show own_G p.tables e below s _ _ _ (s₁.setTop (mkF m 210 #[.val (.int p1), .val (.int p2), .val (.int p3), .val (.int p4), .val (.int p5), .val (.int p6), .val (.int g1), .val (.int g2), .val (.int (2 : Int32)), .val (.int k0), .val (.int k1), .val (.int k2), .val (.double d374), .second, .val (.double d376), .second, .val (.double d378), .second, .val (.double d379), .second, .val (.double d380), .second, .val (.double d381), .second, .val (.double d382), .second, .val (.long (eu.toInt64)), .second, .unset, .unset, .unset, .unset, .unset] [(.double d379)]))
    refine own_go (fun t k => XS.iload X0.here hx rfl (hb hby at_210) rfl k) ?_
    show own_G p.tables e below s _ _ _ (s₁.setTop (mkF m 212 #[.val (.int p1), .val (.int p2), .val (.int p3), .val (.int p4), .val (.int p5), .val (.int p6), .val (.int g1), .val (.int g2), .val (.int (2 : Int32)), .val (.int k0), .val (.int k1), .val (.int k2), .val (.double d374), .second, .val (.double d376), .second, .val (.double d378), .second, .val (.double d379), .second, .val (.double d380), .second, .val (.double d381), .second, .val (.double d382), .second, .val (.long (eu.toInt64)), .second, .unset, .unset, .unset, .unset, .unset] [(.int g1), (.double d379)]))
    obtain ⟨d400, hd400⟩ : ∃ z, Jvm.FP.i2d g1 = z := ⟨_, rfl⟩
    have D400 : own_E (8 * (g1).toInt) d400 := by rw [← hd400]; exact own_i2d g1
    refine own_go (fun t k => XS.i2dS X0.here hx rfl (hb hby at_212) rfl hd400 k) ?_
    show own_G p.tables e below s _ _ _ (s₁.setTop (mkF m 213 #[.val (.int p1), .val (.int p2), .val (.int p3), .val (.int p4), .val (.int p5), .val (.int p6), .val (.int g1), .val (.int g2), .val (.int (2 : Int32)), .val (.int k0), .val (.int k1), .val (.int k2), .val (.double d374), .second, .val (.double d376), .second, .val (.double d378), .second, .val (.double d379), .second, .val (.double d380), .second, .val (.double d381), .second, .val (.double d382), .second, .val (.long (eu.toInt64)), .second, .unset, .unset, .unset, .unset, .unset] [(.double d400), (.double d379)]))
    refine own_go (fun t k => X0.ldc2DoubleC hx hown (mvT hZ (hw _ (List.mem_of_getElem? (i := 25) rfl))) (g := (mkF m 213 #[.val (.int p1), .val (.int p2), .val (.int p3), .val (.int p4), .val (.int p5), .val (.int p6), .val (.int g1), .val (.int g2), .val (.int (2 : Int32)), .val (.int k0), .val (.int k1), .val (.int k2), .val (.double d374), .second, .val (.double d376), .second, .val (.double d378), .second, .val (.double d379), .second, .val (.double d380), .second, .val (.double d381), .second, .val (.double d382), .second, .val (.long (eu.toInt64)), .second, .unset, .unset, .unset, .unset, .unset] [(.double d400), (.double d379)])) rfl (hb hby at_213) _ k) ?_
    show own_G p.tables e below s _ _ _ (s₁.setTop (mkF m 216 #[.val (.int p1), .val (.int p2), .val (.int p3), .val (.int p4), .val (.int p5), .val (.int p6), .val (.int g1), .val (.int g2), .val (.int (2 : Int32)), .val (.int k0), .val (.int k1), .val (.int k2), .val (.double d374), .second, .val (.double d376), .second, .val (.double d378), .second, .val (.double d379), .second, .val (.double d380), .second, .val (.double d381), .second, .val (.double d382), .second, .val (.long (eu.toInt64)), .second, .unset, .unset, .unset, .unset, .unset] [(.double (4611686018427387904 : UInt64)), (.double d400), (.double d379)]))
    obtain ⟨d401, hd401⟩ : ∃ z, Jvm.FP.ddiv d400 (4611686018427387904 : UInt64) = z := ⟨_, rfl⟩
    have D401 : own_E (4 * g1.toInt) d401 := by rw [← hd401]; exact own_div D400 own_2 (by decide) (by omega) (by omega)
    refine own_go (fun t k => XS.ddivS X0.here hx rfl (hb hby at_216) rfl (by rw [hd401]; exact own_num D401) hd401 k) ?_
    show own_G p.tables e below s _ _ _ (s₁.setTop (mkF m 217 #[.val (.int p1), .val (.int p2), .val (.int p3), .val (.int p4), .val (.int p5), .val (.int p6), .val (.int g1), .val (.int g2), .val (.int (2 : Int32)), .val (.int k0), .val (.int k1), .val (.int k2), .val (.double d374), .second, .val (.double d376), .second, .val (.double d378), .second, .val (.double d379), .second, .val (.double d380), .second, .val (.double d381), .second, .val (.double d382), .second, .val (.long (eu.toInt64)), .second, .unset, .unset, .unset, .unset, .unset] [(.double d401), (.double d379)]))
    obtain ⟨d402, hd402⟩ : ∃ z, Jvm.FP.dadd d379 d401 = z := ⟨_, rfl⟩
    have D402 : own_E (8 * p1.toInt + 4 * g1.toInt) d402 := by rw [← hd402]; exact own_add D379 D401 (by omega)
    refine own_go (fun t k => XS.daddS X0.here hx rfl (hb hby at_217) rfl (by rw [hd402]; exact own_num D402) hd402 k) ?_
    show own_G p.tables e below s _ _ _ (s₁.setTop (mkF m 218 #[.val (.int p1), .val (.int p2), .val (.int p3), .val (.int p4), .val (.int p5), .val (.int p6), .val (.int g1), .val (.int g2), .val (.int (2 : Int32)), .val (.int k0), .val (.int k1), .val (.int k2), .val (.double d374), .second, .val (.double d376), .second, .val (.double d378), .second, .val (.double d379), .second, .val (.double d380), .second, .val (.double d381), .second, .val (.double d382), .second, .val (.long (eu.toInt64)), .second, .unset, .unset, .unset, .unset, .unset] [(.double d402)]))
    refine own_go (fun t k => XS.dstore X0.here hx rfl (hb hby at_218) rfl (l' := #[.val (.int p1), .val (.int p2), .val (.int p3), .val (.int p4), .val (.int p5), .val (.int p6), .val (.int g1), .val (.int g2), .val (.int (2 : Int32)), .val (.int k0), .val (.int k1), .val (.int k2), .val (.double d374), .second, .val (.double d376), .second, .val (.double d378), .second, .val (.double d379), .second, .val (.double d380), .second, .val (.double d381), .second, .val (.double d382), .second, .val (.long (eu.toInt64)), .second, .val (.double d402), .second, .unset, .unset, .unset]) rfl k) ?_
    show own_G p.tables e below s _ _ _ (s₁.setTop (mkF m 220 #[.val (.int p1), .val (.int p2), .val (.int p3), .val (.int p4), .val (.int p5), .val (.int p6), .val (.int g1), .val (.int g2), .val (.int (2 : Int32)), .val (.int k0), .val (.int k1), .val (.int k2), .val (.double d374), .second, .val (.double d376), .second, .val (.double d378), .second, .val (.double d379), .second, .val (.double d380), .second, .val (.double d381), .second, .val (.double d382), .second, .val (.long (eu.toInt64)), .second, .val (.double d402), .second, .unset, .unset, .unset] []))
    refine own_go (fun t k => XS.iload X0.here hx rfl (hb hby at_220) rfl k) ?_
    show own_G p.tables e below s _ _ _ (s₁.setTop (mkF m 222 #[.val (.int p1), .val (.int p2), .val (.int p3), .val (.int p4), .val (.int p5), .val (.int p6), .val (.int g1), .val (.int g2), .val (.int (2 : Int32)), .val (.int k0), .val (.int k1), .val (.int k2), .val (.double d374), .second, .val (.double d376), .second, .val (.double d378), .second, .val (.double d379), .second, .val (.double d380), .second, .val (.double d381), .second, .val (.double d382), .second, .val (.long (eu.toInt64)), .second, .val (.double d402), .second, .unset, .unset, .unset] [(.int (2 : Int32))]))
    refine own_go (fun t k => XS.iconst X0.here hx rfl (hb hby at_222) k) ?_
    show own_G p.tables e below s _ _ _ (s₁.setTop (mkF m 223 #[.val (.int p1), .val (.int p2), .val (.int p3), .val (.int p4), .val (.int p5), .val (.int p6), .val (.int g1), .val (.int g2), .val (.int (2 : Int32)), .val (.int k0), .val (.int k1), .val (.int k2), .val (.double d374), .second, .val (.double d376), .second, .val (.double d378), .second, .val (.double d379), .second, .val (.double d380), .second, .val (.double d381), .second, .val (.double d382), .second, .val (.long (eu.toInt64)), .second, .val (.double d402), .second, .unset, .unset, .unset] [(.int (2 : Int32)), (.int (2 : Int32))]))
    refine own_go (fun t k => XS.icmpNo X0.here hx rfl (hb hby at_223) rfl (by decide) k) ?_
    show own_G p.tables e below s _ _ _ (s₁.setTop (mkF m 226 #[.val (.int p1), .val (.int p2), .val (.int p3), .val (.int p4), .val (.int p5), .val (.int p6), .val (.int g1), .val (.int g2), .val (.int (2 : Int32)), .val (.int k0), .val (.int k1), .val (.int k2), .val (.double d374), .second, .val (.double d376), .second, .val (.double d378), .second, .val (.double d379), .second, .val (.double d380), .second, .val (.double d381), .second, .val (.double d382), .second, .val (.long (eu.toInt64)), .second, .val (.double d402), .second, .unset, .unset, .unset] []))
    refine own_go (fun t k => XS.iconst X0.here hx rfl (hb hby at_226) k) ?_
    show own_G p.tables e below s _ _ _ (s₁.setTop (mkF m 227 #[.val (.int p1), .val (.int p2), .val (.int p3), .val (.int p4), .val (.int p5), .val (.int p6), .val (.int g1), .val (.int g2), .val (.int (2 : Int32)), .val (.int k0), .val (.int k1), .val (.int k2), .val (.double d374), .second, .val (.double d376), .second, .val (.double d378), .second, .val (.double d379), .second, .val (.double d380), .second, .val (.double d381), .second, .val (.double d382), .second, .val (.long (eu.toInt64)), .second, .val (.double d402), .second, .unset, .unset, .unset] [(.int (4 : Int32))]))
    obtain ⟨T403, h403, k403, X403, e403, E403, A403, st403⟩ := newP X0 hx hZ (hw _ (List.mem_of_getElem? (i := 3) rfl)) e0 (g := (mkF m 227 #[.val (.int p1), .val (.int p2), .val (.int p3), .val (.int p4), .val (.int p5), .val (.int p6), .val (.int g1), .val (.int g2), .val (.int (2 : Int32)), .val (.int k0), .val (.int k1), .val (.int k2), .val (.double d374), .second, .val (.double d376), .second, .val (.double d378), .second, .val (.double d379), .second, .val (.double d380), .second, .val (.double d381), .second, .val (.double d382), .second, .val (.long (eu.toInt64)), .second, .val (.double d402), .second, .unset, .unset, .unset] [(.int (4 : Int32))])) rfl (hb hby at_227) rfl (by decide) (cap := 4) (by decide) (by decide) (by decide) (by decide)
    obtain ⟨b403, g403⟩ : ∃ z, z = h0.size := ⟨_, rfl⟩
    rw [← g403] at A403 st403
    refine own_go st403 ?_
    have g404 := Nat.le_trans Z0 (Nat.le_of_eq g403.symm)
    have z405 := Nat.le_trans Z0 E403.1
    have v406 : Arv Z h403 b403 k403 .double (4 : Int32) [(.double 0), (.double 0), (.double 0), (.double 0)] (.double 0) := (Arv.new A403 (by decide)).pad (pad_rep [] (.double 0) 4)
    show own_G p.tables e below s _ _ _ (T403.setTop (mkF m 229 #[.val (.int p1), .val (.int p2), .val (.int p3), .val (.int p4), .val (.int p5), .val (.int p6), .val (.int g1), .val (.int g2), .val (.int (2 : Int32)), .val (.int k0), .val (.int k1), .val (.int k2), .val (.double d374), .second, .val (.double d376), .second, .val (.double d378), .second, .val (.double d379), .second, .val (.double d380), .second, .val (.double d381), .second, .val (.double d382), .second, .val (.long (eu.toInt64)), .second, .val (.double d402), .second, .unset, .unset, .unset] [(.ref b403)]))
    refine own_go (fun t k => XS.dup X403.here hx rfl (hb hby at_229) rfl rfl k) ?_
    show own_G p.tables e below s _ _ _ (T403.setTop (mkF m 230 #[.val (.int p1), .val (.int p2), .val (.int p3), .val (.int p4), .val (.int p5), .val (.int p6), .val (.int g1), .val (.int g2), .val (.int (2 : Int32)), .val (.int k0), .val (.int k1), .val (.int k2), .val (.double d374), .second, .val (.double d376), .second, .val (.double d378), .second, .val (.double d379), .second, .val (.double d380), .second, .val (.double d381), .second, .val (.double d382), .second, .val (.long (eu.toInt64)), .second, .val (.double d402), .second, .unset, .unset, .unset] [(.ref b403), (.ref b403)]))
    refine own_go (fun t k => XS.iconst X403.here hx rfl (hb hby at_230) k) ?_
    show own_G p.tables e below s _ _ _ (T403.setTop (mkF m 231 #[.val (.int p1), .val (.int p2), .val (.int p3), .val (.int p4), .val (.int p5), .val (.int p6), .val (.int g1), .val (.int g2), .val (.int (2 : Int32)), .val (.int k0), .val (.int k1), .val (.int k2), .val (.double d374), .second, .val (.double d376), .second, .val (.double d378), .second, .val (.double d379), .second, .val (.double d380), .second, .val (.double d381), .second, .val (.double d382), .second, .val (.long (eu.toInt64)), .second, .val (.double d402), .second, .unset, .unset, .unset] [(.int (0 : Int32)), (.ref b403), (.ref b403)]))
    refine own_go (fun t k => XS.dload X403.here hx rfl (hb hby at_231) rfl k) ?_
    show own_G p.tables e below s _ _ _ (T403.setTop (mkF m 233 #[.val (.int p1), .val (.int p2), .val (.int p3), .val (.int p4), .val (.int p5), .val (.int p6), .val (.int g1), .val (.int g2), .val (.int (2 : Int32)), .val (.int k0), .val (.int k1), .val (.int k2), .val (.double d374), .second, .val (.double d376), .second, .val (.double d378), .second, .val (.double d379), .second, .val (.double d380), .second, .val (.double d381), .second, .val (.double d382), .second, .val (.long (eu.toInt64)), .second, .val (.double d402), .second, .unset, .unset, .unset] [(.double d379), (.int (0 : Int32)), (.ref b403), (.ref b403)]))
    obtain ⟨cl407, Ar407, q407, S407, NN407, HH407, GG407⟩ := v406
    have hin407 : ¬ ((0 : Int32) < 0 ∨ cl407.slots.size ≤ ((0 : Int32)).toNatClampNeg) := inb_of S407 ⟨by decide, by decide⟩
    obtain ⟨T407, h407, X407, e407, W407, st407⟩ := stD X403 hx hZ e403 Ar407 (j := (0 : Int32)) hin407 (g := (mkF m 233 #[.val (.int p1), .val (.int p2), .val (.int p3), .val (.int p4), .val (.int p5), .val (.int p6), .val (.int g1), .val (.int g2), .val (.int (2 : Int32)), .val (.int k0), .val (.int k1), .val (.int k2), .val (.double d374), .second, .val (.double d376), .second, .val (.double d378), .second, .val (.double d379), .second, .val (.double d380), .second, .val (.double d381), .second, .val (.double d382), .second, .val (.long (eu.toInt64)), .second, .val (.double d402), .second, .unset, .unset, .unset] [(.double d379), (.int (0 : Int32)), (.ref b403), (.ref b403)])) rfl rfl (hb hby at_233)
    refine own_go st407 ?_
    have v408 : Arv Z h407 b403 k403 .double (4 : Int32) [(.double d379), (.double 0), (.double 0), (.double 0)] (.double 0) := Arv.set Ar407 q407 S407 NN407 HH407 GG407 rfl W407 0 rfl (Nat.le_of_ble_eq_true rfl)
    have z409 := Nat.le_trans z405 (Keep.of_wr W407).1
    have N407 := Fr.snoc X407 N0 g404
    show own_G p.tables e below s _ _ _ (T407.setTop (mkF m 234 #[.val (.int p1), .val (.int p2), .val (.int p3), .val (.int p4), .val (.int p5), .val (.int p6), .val (.int g1), .val (.int g2), .val (.int (2 : Int32)), .val (.int k0), .val (.int k1), .val (.int k2), .val (.double d374), .second, .val (.double d376), .second, .val (.double d378), .second, .val (.double d379), .second, .val (.double d380), .second, .val (.double d381), .second, .val (.double d382), .second, .val (.long (eu.toInt64)), .second, .val (.double d402), .second, .unset, .unset, .unset] [(.ref b403)]))
    refine own_go (fun t k => XS.dup X407.here hx rfl (hb hby at_234) rfl rfl k) ?_
    show own_G p.tables e below s _ _ _ (T407.setTop (mkF m 235 #[.val (.int p1), .val (.int p2), .val (.int p3), .val (.int p4), .val (.int p5), .val (.int p6), .val (.int g1), .val (.int g2), .val (.int (2 : Int32)), .val (.int k0), .val (.int k1), .val (.int k2), .val (.double d374), .second, .val (.double d376), .second, .val (.double d378), .second, .val (.double d379), .second, .val (.double d380), .second, .val (.double d381), .second, .val (.double d382), .second, .val (.long (eu.toInt64)), .second, .val (.double d402), .second, .unset, .unset, .unset] [(.ref b403), (.ref b403)]))
    refine own_go (fun t k => XS.iconst X407.here hx rfl (hb hby at_235) k) ?_
    show own_G p.tables e below s _ _ _ (T407.setTop (mkF m 236 #[.val (.int p1), .val (.int p2), .val (.int p3), .val (.int p4), .val (.int p5), .val (.int p6), .val (.int g1), .val (.int g2), .val (.int (2 : Int32)), .val (.int k0), .val (.int k1), .val (.int k2), .val (.double d374), .second, .val (.double d376), .second, .val (.double d378), .second, .val (.double d379), .second, .val (.double d380), .second, .val (.double d381), .second, .val (.double d382), .second, .val (.long (eu.toInt64)), .second, .val (.double d402), .second, .unset, .unset, .unset] [(.int (1 : Int32)), (.ref b403), (.ref b403)]))
    refine own_go (fun t k => XS.dload X407.here hx rfl (hb hby at_236) rfl k) ?_
    show own_G p.tables e below s _ _ _ (T407.setTop (mkF m 238 #[.val (.int p1), .val (.int p2), .val (.int p3), .val (.int p4), .val (.int p5), .val (.int p6), .val (.int g1), .val (.int g2), .val (.int (2 : Int32)), .val (.int k0), .val (.int k1), .val (.int k2), .val (.double d374), .second, .val (.double d376), .second, .val (.double d378), .second, .val (.double d379), .second, .val (.double d380), .second, .val (.double d381), .second, .val (.double d382), .second, .val (.long (eu.toInt64)), .second, .val (.double d402), .second, .unset, .unset, .unset] [(.double d374), (.int (1 : Int32)), (.ref b403), (.ref b403)]))
    obtain ⟨cl410, Ar410, q410, S410, NN410, HH410, GG410⟩ := v408
    have hin410 : ¬ ((1 : Int32) < 0 ∨ cl410.slots.size ≤ ((1 : Int32)).toNatClampNeg) := inb_of S410 ⟨by decide, by decide⟩
    obtain ⟨T410, h410, X410, e410, W410, st410⟩ := stD X407 hx hZ e407 Ar410 (j := (1 : Int32)) hin410 (g := (mkF m 238 #[.val (.int p1), .val (.int p2), .val (.int p3), .val (.int p4), .val (.int p5), .val (.int p6), .val (.int g1), .val (.int g2), .val (.int (2 : Int32)), .val (.int k0), .val (.int k1), .val (.int k2), .val (.double d374), .second, .val (.double d376), .second, .val (.double d378), .second, .val (.double d379), .second, .val (.double d380), .second, .val (.double d381), .second, .val (.double d382), .second, .val (.long (eu.toInt64)), .second, .val (.double d402), .second, .unset, .unset, .unset] [(.double d374), (.int (1 : Int32)), (.ref b403), (.ref b403)])) rfl rfl (hb hby at_238)
    refine own_go st410 ?_
    have v411 : Arv Z h410 b403 k403 .double (4 : Int32) [(.double d379), (.double d374), (.double 0), (.double 0)] (.double 0) := Arv.set Ar410 q410 S410 NN410 HH410 GG410 rfl W410 1 rfl (Nat.le_of_ble_eq_true rfl)
    have z412 := Nat.le_trans z409 (Keep.of_wr W410).1
    have N410 := Fr.snoc X410 N407 g404
    show own_G p.tables e below s _ _ _ (T410.setTop (mkF m 239 #[.val (.int p1), .val (.int p2), .val (.int p3), .val (.int p4), .val (.int p5), .val (.int p6), .val (.int g1), .val (.int g2), .val (.int (2 : Int32)), .val (.int k0), .val (.int k1), .val (.int k2), .val (.double d374), .second, .val (.double d376), .second, .val (.double d378), .second, .val (.double d379), .second, .val (.double d380), .second, .val (.double d381), .second, .val (.double d382), .second, .val (.long (eu.toInt64)), .second, .val (.double d402), .second, .unset, .unset, .unset] [(.ref b403)]))
    refine own_go (fun t k => XS.dup X410.here hx rfl (hb hby at_239) rfl rfl k) ?_
    show own_G p.tables e below s _ _ _ (T410.setTop (mkF m 240 #[.val (.int p1), .val (.int p2), .val (.int p3), .val (.int p4), .val (.int p5), .val (.int p6), .val (.int g1), .val (.int g2), .val (.int (2 : Int32)), .val (.int k0), .val (.int k1), .val (.int k2), .val (.double d374), .second, .val (.double d376), .second, .val (.double d378), .second, .val (.double d379), .second, .val (.double d380), .second, .val (.double d381), .second, .val (.double d382), .second, .val (.long (eu.toInt64)), .second, .val (.double d402), .second, .unset, .unset, .unset] [(.ref b403), (.ref b403)]))
    refine own_go (fun t k => XS.iconst X410.here hx rfl (hb hby at_240) k) ?_
    show own_G p.tables e below s _ _ _ (T410.setTop (mkF m 241 #[.val (.int p1), .val (.int p2), .val (.int p3), .val (.int p4), .val (.int p5), .val (.int p6), .val (.int g1), .val (.int g2), .val (.int (2 : Int32)), .val (.int k0), .val (.int k1), .val (.int k2), .val (.double d374), .second, .val (.double d376), .second, .val (.double d378), .second, .val (.double d379), .second, .val (.double d380), .second, .val (.double d381), .second, .val (.double d382), .second, .val (.long (eu.toInt64)), .second, .val (.double d402), .second, .unset, .unset, .unset] [(.int (2 : Int32)), (.ref b403), (.ref b403)]))
    refine own_go (fun t k => XS.dload X410.here hx rfl (hb hby at_241) rfl k) ?_
    show own_G p.tables e below s _ _ _ (T410.setTop (mkF m 243 #[.val (.int p1), .val (.int p2), .val (.int p3), .val (.int p4), .val (.int p5), .val (.int p6), .val (.int g1), .val (.int g2), .val (.int (2 : Int32)), .val (.int k0), .val (.int k1), .val (.int k2), .val (.double d374), .second, .val (.double d376), .second, .val (.double d378), .second, .val (.double d379), .second, .val (.double d380), .second, .val (.double d381), .second, .val (.double d382), .second, .val (.long (eu.toInt64)), .second, .val (.double d402), .second, .unset, .unset, .unset] [(.double d380), (.int (2 : Int32)), (.ref b403), (.ref b403)]))
    obtain ⟨cl413, Ar413, q413, S413, NN413, HH413, GG413⟩ := v411
    have hin413 : ¬ ((2 : Int32) < 0 ∨ cl413.slots.size ≤ ((2 : Int32)).toNatClampNeg) := inb_of S413 ⟨by decide, by decide⟩
    obtain ⟨T413, h413, X413, e413, W413, st413⟩ := stD X410 hx hZ e410 Ar413 (j := (2 : Int32)) hin413 (g := (mkF m 243 #[.val (.int p1), .val (.int p2), .val (.int p3), .val (.int p4), .val (.int p5), .val (.int p6), .val (.int g1), .val (.int g2), .val (.int (2 : Int32)), .val (.int k0), .val (.int k1), .val (.int k2), .val (.double d374), .second, .val (.double d376), .second, .val (.double d378), .second, .val (.double d379), .second, .val (.double d380), .second, .val (.double d381), .second, .val (.double d382), .second, .val (.long (eu.toInt64)), .second, .val (.double d402), .second, .unset, .unset, .unset] [(.double d380), (.int (2 : Int32)), (.ref b403), (.ref b403)])) rfl rfl (hb hby at_243)
    refine own_go st413 ?_
    have v414 : Arv Z h413 b403 k403 .double (4 : Int32) [(.double d379), (.double d374), (.double d380), (.double 0)] (.double 0) := Arv.set Ar413 q413 S413 NN413 HH413 GG413 rfl W413 2 rfl (Nat.le_of_ble_eq_true rfl)
    have z415 := Nat.le_trans z412 (Keep.of_wr W413).1
    have N413 := Fr.snoc X413 N410 g404
    show own_G p.tables e below s _ _ _ (T413.setTop (mkF m 244 #[.val (.int p1), .val (.int p2), .val (.int p3), .val (.int p4), .val (.int p5), .val (.int p6), .val (.int g1), .val (.int g2), .val (.int (2 : Int32)), .val (.int k0), .val (.int k1), .val (.int k2), .val (.double d374), .second, .val (.double d376), .second, .val (.double d378), .second, .val (.double d379), .second, .val (.double d380), .second, .val (.double d381), .second, .val (.double d382), .second, .val (.long (eu.toInt64)), .second, .val (.double d402), .second, .unset, .unset, .unset] [(.ref b403)]))
    refine own_go (fun t k => XS.dup X413.here hx rfl (hb hby at_244) rfl rfl k) ?_
    show own_G p.tables e below s _ _ _ (T413.setTop (mkF m 245 #[.val (.int p1), .val (.int p2), .val (.int p3), .val (.int p4), .val (.int p5), .val (.int p6), .val (.int g1), .val (.int g2), .val (.int (2 : Int32)), .val (.int k0), .val (.int k1), .val (.int k2), .val (.double d374), .second, .val (.double d376), .second, .val (.double d378), .second, .val (.double d379), .second, .val (.double d380), .second, .val (.double d381), .second, .val (.double d382), .second, .val (.long (eu.toInt64)), .second, .val (.double d402), .second, .unset, .unset, .unset] [(.ref b403), (.ref b403)]))
    refine own_go (fun t k => XS.iconst X413.here hx rfl (hb hby at_245) k) ?_
    show own_G p.tables e below s _ _ _ (T413.setTop (mkF m 246 #[.val (.int p1), .val (.int p2), .val (.int p3), .val (.int p4), .val (.int p5), .val (.int p6), .val (.int g1), .val (.int g2), .val (.int (2 : Int32)), .val (.int k0), .val (.int k1), .val (.int k2), .val (.double d374), .second, .val (.double d376), .second, .val (.double d378), .second, .val (.double d379), .second, .val (.double d380), .second, .val (.double d381), .second, .val (.double d382), .second, .val (.long (eu.toInt64)), .second, .val (.double d402), .second, .unset, .unset, .unset] [(.int (3 : Int32)), (.ref b403), (.ref b403)]))
    refine own_go (fun t k => XS.dload X413.here hx rfl (hb hby at_246) rfl k) ?_
    show own_G p.tables e below s _ _ _ (T413.setTop (mkF m 248 #[.val (.int p1), .val (.int p2), .val (.int p3), .val (.int p4), .val (.int p5), .val (.int p6), .val (.int g1), .val (.int g2), .val (.int (2 : Int32)), .val (.int k0), .val (.int k1), .val (.int k2), .val (.double d374), .second, .val (.double d376), .second, .val (.double d378), .second, .val (.double d379), .second, .val (.double d380), .second, .val (.double d381), .second, .val (.double d382), .second, .val (.long (eu.toInt64)), .second, .val (.double d402), .second, .unset, .unset, .unset] [(.double d376), (.int (3 : Int32)), (.ref b403), (.ref b403)]))
    obtain ⟨cl416, Ar416, q416, S416, NN416, HH416, GG416⟩ := v414
    have hin416 : ¬ ((3 : Int32) < 0 ∨ cl416.slots.size ≤ ((3 : Int32)).toNatClampNeg) := inb_of S416 ⟨by decide, by decide⟩
    obtain ⟨T416, h416, X416, e416, W416, st416⟩ := stD X413 hx hZ e413 Ar416 (j := (3 : Int32)) hin416 (g := (mkF m 248 #[.val (.int p1), .val (.int p2), .val (.int p3), .val (.int p4), .val (.int p5), .val (.int p6), .val (.int g1), .val (.int g2), .val (.int (2 : Int32)), .val (.int k0), .val (.int k1), .val (.int k2), .val (.double d374), .second, .val (.double d376), .second, .val (.double d378), .second, .val (.double d379), .second, .val (.double d380), .second, .val (.double d381), .second, .val (.double d382), .second, .val (.long (eu.toInt64)), .second, .val (.double d402), .second, .unset, .unset, .unset] [(.double d376), (.int (3 : Int32)), (.ref b403), (.ref b403)])) rfl rfl (hb hby at_248)
    refine own_go st416 ?_
    have v417 : Arv Z h416 b403 k403 .double (4 : Int32) [(.double d379), (.double d374), (.double d380), (.double d376)] (.double 0) := Arv.set Ar416 q416 S416 NN416 HH416 GG416 rfl W416 3 rfl (Nat.le_of_ble_eq_true rfl)
    have z418 := Nat.le_trans z415 (Keep.of_wr W416).1
    have N416 := Fr.snoc X416 N413 g404
    show own_G p.tables e below s _ _ _ (T416.setTop (mkF m 249 #[.val (.int p1), .val (.int p2), .val (.int p3), .val (.int p4), .val (.int p5), .val (.int p6), .val (.int g1), .val (.int g2), .val (.int (2 : Int32)), .val (.int k0), .val (.int k1), .val (.int k2), .val (.double d374), .second, .val (.double d376), .second, .val (.double d378), .second, .val (.double d379), .second, .val (.double d380), .second, .val (.double d381), .second, .val (.double d382), .second, .val (.long (eu.toInt64)), .second, .val (.double d402), .second, .unset, .unset, .unset] [(.ref b403)]))
    obtain ⟨_, _, ⟨T419, L419, k419, n419⟩, -, X419, ⟨Lc419, hQ419, l419, y419, z419⟩, st419⟩ := Jvm.LawKit.callS X416 hx (y := (⟨"com/example/options_into_arguments/optionsintoarguments/quality/Curve", "through", "([D)Lcom/example/options_into_arguments/optionsintoarguments/quality/Curve;"⟩ : MethodName)) hown (mvT hZ (hw _ (List.mem_of_getElem? (i := 4) rfl))) (mvT hZ (hw _ (List.mem_of_getElem? (i := 5) rfl))) (mvT hZ (hw _ (List.mem_of_getElem? (i := 6) rfl))) (mvT hZ (hw _ (List.mem_of_getElem? (i := 7) rfl))) (by decide) (backOf (W := 0) (rmt2 l Z a0 hw [] b403 k403 d379 d374 d380 d376 (8 * (p1).toInt) (2 * k0.toInt) (8 * (p1.toInt + g1.toInt)) (2 * k1.toInt) h416 n0 z418 v417 D379 D374 D380 D376 (by omega) (by omega) (by omega)) hZ (hw _ (List.mem_of_getElem? (i := 7) rfl)) (hw _ (List.mem_of_getElem? (i := 6) rfl)) (by decide) (by decide)) (g := (mkF m 249 #[.val (.int p1), .val (.int p2), .val (.int p3), .val (.int p4), .val (.int p5), .val (.int p6), .val (.int g1), .val (.int g2), .val (.int (2 : Int32)), .val (.int k0), .val (.int k1), .val (.int k2), .val (.double d374), .second, .val (.double d376), .second, .val (.double d378), .second, .val (.double d379), .second, .val (.double d380), .second, .val (.double d381), .second, .val (.double d382), .second, .val (.long (eu.toInt64)), .second, .val (.double d402), .second, .unset, .unset, .unset] [(.ref b403)])) rfl (by rw [hml]; rfl) (argsL := [(.ref b403)]) (rest := []) (lenOf pd___D_Lcom_example_options_into_arguments_optionsintoarguments_quality_Curve_ rfl) rfl (by show 2 * 0 + _ ≤ _; exact Nat.le_of_eq rfl) (hb hby at_249) (fun _ _ => ⟨rfl, e416, (by decide : 1 + 3 ≤ _), (by decide : 4 + 6 ≤ _)⟩)
    dsimp only [Pt.U, Pt.locs, Pt.cells, Pt.slots] at X419 l419 y419 z419 st419 hQ419
    subst l419 y419 z419
    obtain ⟨⟨b419, xa419, ya419, kx419, ky419, rfl, Eb419, Fx419, Fy419, Vx419, Vy419⟩, N419q, K419⟩ := hQ419
    have N419 := Fr.app N416 N419q
    refine own_go st419 ?_
    have f420 := v417.keep K419 (fun q => nomatch q)
    have z421 := Nat.le_trans z418 K419.1
    show own_G p.tables e below s _ _ _ (T419.setTop (mkF m 252 #[.val (.int p1), .val (.int p2), .val (.int p3), .val (.int p4), .val (.int p5), .val (.int p6), .val (.int g1), .val (.int g2), .val (.int (2 : Int32)), .val (.int k0), .val (.int k1), .val (.int k2), .val (.double d374), .second, .val (.double d376), .second, .val (.double d378), .second, .val (.double d379), .second, .val (.double d380), .second, .val (.double d381), .second, .val (.double d382), .second, .val (.long (eu.toInt64)), .second, .val (.double d402), .second, .unset, .unset, .unset] [(.ref b419)]))
    refine own_go (fun t k => XS.astore X419.here hx rfl (hb hby at_252) rfl rfl (l' := #[.val (.int p1), .val (.int p2), .val (.int p3), .val (.int p4), .val (.int p5), .val (.int p6), .val (.int g1), .val (.int g2), .val (.int (2 : Int32)), .val (.int k0), .val (.int k1), .val (.int k2), .val (.double d374), .second, .val (.double d376), .second, .val (.double d378), .second, .val (.double d379), .second, .val (.double d380), .second, .val (.double d381), .second, .val (.double d382), .second, .val (.long (eu.toInt64)), .second, .val (.double d402), .second, .val (.ref b419), .unset, .unset]) rfl k) ?_
    show own_G p.tables e below s _ _ _ (T419.setTop (mkF m 254 #[.val (.int p1), .val (.int p2), .val (.int p3), .val (.int p4), .val (.int p5), .val (.int p6), .val (.int g1), .val (.int g2), .val (.int (2 : Int32)), .val (.int k0), .val (.int k1), .val (.int k2), .val (.double d374), .second, .val (.double d376), .second, .val (.double d378), .second, .val (.double d379), .second, .val (.double d380), .second, .val (.double d381), .second, .val (.double d382), .second, .val (.long (eu.toInt64)), .second, .val (.double d402), .second, .val (.ref b419), .unset, .unset] []))
    refine own_go (fun t k => XS.aload X419.here hx rfl (hb hby at_254) rfl rfl k) ?_
    show own_G p.tables e below s _ _ _ (T419.setTop (mkF m 256 #[.val (.int p1), .val (.int p2), .val (.int p3), .val (.int p4), .val (.int p5), .val (.int p6), .val (.int g1), .val (.int g2), .val (.int (2 : Int32)), .val (.int k0), .val (.int k1), .val (.int k2), .val (.double d374), .second, .val (.double d376), .second, .val (.double d378), .second, .val (.double d379), .second, .val (.double d380), .second, .val (.double d381), .second, .val (.double d382), .second, .val (.long (eu.toInt64)), .second, .val (.double d402), .second, .val (.ref b419), .unset, .unset] [(.ref b419)]))
    refine own_go (fun t k => XS.dload X419.here hx rfl (hb hby at_256) rfl k) ?_
    show own_G p.tables e below s _ _ _ (T419.setTop (mkF m 258 #[.val (.int p1), .val (.int p2), .val (.int p3), .val (.int p4), .val (.int p5), .val (.int p6), .val (.int g1), .val (.int g2), .val (.int (2 : Int32)), .val (.int k0), .val (.int k1), .val (.int k2), .val (.double d374), .second, .val (.double d376), .second, .val (.double d378), .second, .val (.double d379), .second, .val (.double d380), .second, .val (.double d381), .second, .val (.double d382), .second, .val (.long (eu.toInt64)), .second, .val (.double d402), .second, .val (.ref b419), .unset, .unset] [(.double d382), (.ref b419)]))
    obtain ⟨cq422, kq422, q422a, q422b, q422c⟩ := isOf hZ rfl Eb419
    obtain ⟨_, _, ⟨T422, L422, k422, n422⟩, -, X422, ⟨Lc422, hQ422, l422, y422, z422⟩, st422⟩ := X419.virtualBack hx (y := (⟨"com/example/options_into_arguments/optionsintoarguments/quality/Curve", "at", "(D)D"⟩ : MethodName)) (z := (⟨"com/example/options_into_arguments/optionsintoarguments/quality/Curve", "at", "(D)D"⟩ : MethodName)) hown (mvT hZ (hw _ (List.mem_of_getElem? (i := 20) rfl))) (mvT hZ (hw _ (List.mem_of_getElem? (i := 21) rfl))) (notFace_of_selects (args := #[]) (mvT hZ (hw _ (List.mem_of_getElem? (i := 23) rfl)))) (mvT hZ (hw _ (List.mem_of_getElem? (i := 23) rfl))) (mvT hZ (hw _ (List.mem_of_getElem? (i := 22) rfl))) (by decide) (backOf (W := 0) (rmA2 l Z a0 hw [] b419 xa419 ya419 kx419 ky419 d382 (8 * (p1.toInt - eb.toInt)) d379 d374 d380 d376 (8 * (p1).toInt) (2 * k0.toInt) (8 * (p1.toInt + g1.toInt)) (2 * k1.toInt) T419.heap n0 z421 D382 D379 D374 D380 D376 Fx419 Fy419 Vx419 Vy419 (by omega)) hZ (hw _ (List.mem_of_getElem? (i := 24) rfl)) (hw _ (List.mem_of_getElem? (i := 6) rfl)) (by decide) (by decide)) q422a q422c (g := (mkF m 258 #[.val (.int p1), .val (.int p2), .val (.int p3), .val (.int p4), .val (.int p5), .val (.int p6), .val (.int g1), .val (.int g2), .val (.int (2 : Int32)), .val (.int k0), .val (.int k1), .val (.int k2), .val (.double d374), .second, .val (.double d376), .second, .val (.double d378), .second, .val (.double d379), .second, .val (.double d380), .second, .val (.double d381), .second, .val (.double d382), .second, .val (.long (eu.toInt64)), .second, .val (.double d402), .second, .val (.ref b419), .unset, .unset] [(.double d382), (.ref b419)])) rfl (by rw [hml]; rfl) (Steps.refl _) (argsL := [(.double d382)]) (rest := []) (lenOf pd__D_D rfl) rfl (by show 2 * 0 + _ ≤ _; exact Nat.le_of_eq rfl) (hb hby at_258) (fun _ _ => ⟨rfl, rfl, (by decide : 4 + 0 ≤ _), (by decide : 10 + 0 ≤ _)⟩)
    dsimp only [Pt.U, Pt.locs, Pt.cells, Pt.slots] at X422 l422 y422 z422 st422 hQ422
    subst l422 y422 z422
    obtain ⟨⟨w422, rfl, hw422⟩, N422q, hh422⟩ := hQ422
    have N422 := Fr.app N419 N422q
    refine own_go (fun t k => st422.trans k) ?_
    show own_G p.tables e below s _ _ _ (T422.setTop (mkF m 261 #[.val (.int p1), .val (.int p2), .val (.int p3), .val (.int p4), .val (.int p5), .val (.int p6), .val (.int g1), .val (.int g2), .val (.int (2 : Int32)), .val (.int k0), .val (.int k1), .val (.int k2), .val (.double d374), .second, .val (.double d376), .second, .val (.double d378), .second, .val (.double d379), .second, .val (.double d380), .second, .val (.double d381), .second, .val (.double d382), .second, .val (.long (eu.toInt64)), .second, .val (.double d402), .second, .val (.ref b419), .unset, .unset] [(.double w422)]))
    refine own_go (fun t k => XS.dload X422.here hx rfl (hb hby at_261) rfl k) ?_
    show own_G p.tables e below s _ _ _ (T422.setTop (mkF m 263 #[.val (.int p1), .val (.int p2), .val (.int p3), .val (.int p4), .val (.int p5), .val (.int p6), .val (.int g1), .val (.int g2), .val (.int (2 : Int32)), .val (.int k0), .val (.int k1), .val (.int k2), .val (.double d374), .second, .val (.double d376), .second, .val (.double d378), .second, .val (.double d379), .second, .val (.double d380), .second, .val (.double d381), .second, .val (.double d382), .second, .val (.long (eu.toInt64)), .second, .val (.double d402), .second, .val (.ref b419), .unset, .unset] [(.double d374), (.double w422)]))
    refine own_go (fun t k => XS.dcmpS X422.here hx rfl (hb hby at_263) rfl (own_cmpv hw422 D374) k) ?_
    show own_G p.tables e below s _ _ _ (T422.setTop (mkF m 264 #[.val (.int p1), .val (.int p2), .val (.int p3), .val (.int p4), .val (.int p5), .val (.int p6), .val (.int g1), .val (.int g2), .val (.int (2 : Int32)), .val (.int k0), .val (.int k1), .val (.int k2), .val (.double d374), .second, .val (.double d376), .second, .val (.double d378), .second, .val (.double d379), .second, .val (.double d380), .second, .val (.double d381), .second, .val (.double d382), .second, .val (.long (eu.toInt64)), .second, .val (.double d402), .second, .val (.ref b419), .unset, .unset] [(.int (own_c (2 * k0.toInt) (2 * k0.toInt)))]))
    refine own_go (fun t k => XS.ifNo X422.here hx rfl (hb hby at_264) rfl (Jvm.Free.XT.i0_ne_f (own_c_eq (by omega))) k) ?_
    show own_G p.tables e below s _ _ _ (T422.setTop (mkF m 267 #[.val (.int p1), .val (.int p2), .val (.int p3), .val (.int p4), .val (.int p5), .val (.int p6), .val (.int g1), .val (.int g2), .val (.int (2 : Int32)), .val (.int k0), .val (.int k1), .val (.int k2), .val (.double d374), .second, .val (.double d376), .second, .val (.double d378), .second, .val (.double d379), .second, .val (.double d380), .second, .val (.double d381), .second, .val (.double d382), .second, .val (.long (eu.toInt64)), .second, .val (.double d402), .second, .val (.ref b419), .unset, .unset] []))
    refine own_go (fun t k => XS.aload X422.here hx rfl (hb hby at_267) rfl rfl k) ?_
    show own_G p.tables e below s _ _ _ (T422.setTop (mkF m 269 #[.val (.int p1), .val (.int p2), .val (.int p3), .val (.int p4), .val (.int p5), .val (.int p6), .val (.int g1), .val (.int g2), .val (.int (2 : Int32)), .val (.int k0), .val (.int k1), .val (.int k2), .val (.double d374), .second, .val (.double d376), .second, .val (.double d378), .second, .val (.double d379), .second, .val (.double d380), .second, .val (.double d381), .second, .val (.double d382), .second, .val (.long (eu.toInt64)), .second, .val (.double d402), .second, .val (.ref b419), .unset, .unset] [(.ref b419)]))
    refine own_go (fun t k => XS.dload X422.here hx rfl (hb hby at_269) rfl k) ?_
    show own_G p.tables e below s _ _ _ (T422.setTop (mkF m 271 #[.val (.int p1), .val (.int p2), .val (.int p3), .val (.int p4), .val (.int p5), .val (.int p6), .val (.int g1), .val (.int g2), .val (.int (2 : Int32)), .val (.int k0), .val (.int k1), .val (.int k2), .val (.double d374), .second, .val (.double d376), .second, .val (.double d378), .second, .val (.double d379), .second, .val (.double d380), .second, .val (.double d381), .second, .val (.double d382), .second, .val (.long (eu.toInt64)), .second, .val (.double d402), .second, .val (.ref b419), .unset, .unset] [(.double d379), (.ref b419)]))
    obtain ⟨cq423, kq423, q423a, q423b, q423c⟩ := isOf hZ hh422 Eb419
    obtain ⟨_, _, ⟨T423, L423, k423, n423⟩, -, X423, ⟨Lc423, hQ423, l423, y423, z423⟩, st423⟩ := X422.virtualBack hx (y := (⟨"com/example/options_into_arguments/optionsintoarguments/quality/Curve", "at", "(D)D"⟩ : MethodName)) (z := (⟨"com/example/options_into_arguments/optionsintoarguments/quality/Curve", "at", "(D)D"⟩ : MethodName)) hown (mvT hZ (hw _ (List.mem_of_getElem? (i := 20) rfl))) (mvT hZ (hw _ (List.mem_of_getElem? (i := 21) rfl))) (notFace_of_selects (args := #[]) (mvT hZ (hw _ (List.mem_of_getElem? (i := 23) rfl)))) (mvT hZ (hw _ (List.mem_of_getElem? (i := 23) rfl))) (mvT hZ (hw _ (List.mem_of_getElem? (i := 22) rfl))) (by decide) (backOf (W := 0) (rmA2 l Z a0 hw [] b419 xa419 ya419 kx419 ky419 d379 (8 * (p1).toInt) d379 d374 d380 d376 (8 * (p1).toInt) (2 * k0.toInt) (8 * (p1.toInt + g1.toInt)) (2 * k1.toInt) T419.heap n0 z421 D379 D379 D374 D380 D376 Fx419 Fy419 Vx419 Vy419 (by omega)) hZ (hw _ (List.mem_of_getElem? (i := 24) rfl)) (hw _ (List.mem_of_getElem? (i := 6) rfl)) (by decide) (by decide)) q423a q423c (g := (mkF m 271 #[.val (.int p1), .val (.int p2), .val (.int p3), .val (.int p4), .val (.int p5), .val (.int p6), .val (.int g1), .val (.int g2), .val (.int (2 : Int32)), .val (.int k0), .val (.int k1), .val (.int k2), .val (.double d374), .second, .val (.double d376), .second, .val (.double d378), .second, .val (.double d379), .second, .val (.double d380), .second, .val (.double d381), .second, .val (.double d382), .second, .val (.long (eu.toInt64)), .second, .val (.double d402), .second, .val (.ref b419), .unset, .unset] [(.double d379), (.ref b419)])) rfl (by rw [hml]; rfl) (Steps.refl _) (argsL := [(.double d379)]) (rest := []) (lenOf pd__D_D rfl) rfl (by show 2 * 0 + _ ≤ _; exact Nat.le_of_eq rfl) (hb hby at_271) (fun _ _ => ⟨rfl, hh422, (by decide : 4 + 0 ≤ _), (by decide : 10 + 0 ≤ _)⟩)
    dsimp only [Pt.U, Pt.locs, Pt.cells, Pt.slots] at X423 l423 y423 z423 st423 hQ423
    subst l423 y423 z423
    obtain ⟨⟨w423, rfl, hw423⟩, N423q, hh423⟩ := hQ423
    have N423 := Fr.app N422 N423q
    refine own_go (fun t k => st423.trans k) ?_
    show own_G p.tables e below s _ _ _ (T423.setTop (mkF m 274 #[.val (.int p1), .val (.int p2), .val (.int p3), .val (.int p4), .val (.int p5), .val (.int p6), .val (.int g1), .val (.int g2), .val (.int (2 : Int32)), .val (.int k0), .val (.int k1), .val (.int k2), .val (.double d374), .second, .val (.double d376), .second, .val (.double d378), .second, .val (.double d379), .second, .val (.double d380), .second, .val (.double d381), .second, .val (.double d382), .second, .val (.long (eu.toInt64)), .second, .val (.double d402), .second, .val (.ref b419), .unset, .unset] [(.double w423)]))
    refine own_go (fun t k => XS.dload X423.here hx rfl (hb hby at_274) rfl k) ?_
    show own_G p.tables e below s _ _ _ (T423.setTop (mkF m 276 #[.val (.int p1), .val (.int p2), .val (.int p3), .val (.int p4), .val (.int p5), .val (.int p6), .val (.int g1), .val (.int g2), .val (.int (2 : Int32)), .val (.int k0), .val (.int k1), .val (.int k2), .val (.double d374), .second, .val (.double d376), .second, .val (.double d378), .second, .val (.double d379), .second, .val (.double d380), .second, .val (.double d381), .second, .val (.double d382), .second, .val (.long (eu.toInt64)), .second, .val (.double d402), .second, .val (.ref b419), .unset, .unset] [(.double d374), (.double w423)]))
    refine own_go (fun t k => XS.dcmpS X423.here hx rfl (hb hby at_276) rfl (own_cmpv hw423 D374) k) ?_
    show own_G p.tables e below s _ _ _ (T423.setTop (mkF m 277 #[.val (.int p1), .val (.int p2), .val (.int p3), .val (.int p4), .val (.int p5), .val (.int p6), .val (.int g1), .val (.int g2), .val (.int (2 : Int32)), .val (.int k0), .val (.int k1), .val (.int k2), .val (.double d374), .second, .val (.double d376), .second, .val (.double d378), .second, .val (.double d379), .second, .val (.double d380), .second, .val (.double d381), .second, .val (.double d382), .second, .val (.long (eu.toInt64)), .second, .val (.double d402), .second, .val (.ref b419), .unset, .unset] [(.int (own_c (2 * k0.toInt) (2 * k0.toInt)))]))
    refine own_go (fun t k => XS.ifNo X423.here hx rfl (hb hby at_277) rfl (Jvm.Free.XT.i0_ne_f (own_c_eq (by omega))) k) ?_
    show own_G p.tables e below s _ _ _ (T423.setTop (mkF m 280 #[.val (.int p1), .val (.int p2), .val (.int p3), .val (.int p4), .val (.int p5), .val (.int p6), .val (.int g1), .val (.int g2), .val (.int (2 : Int32)), .val (.int k0), .val (.int k1), .val (.int k2), .val (.double d374), .second, .val (.double d376), .second, .val (.double d378), .second, .val (.double d379), .second, .val (.double d380), .second, .val (.double d381), .second, .val (.double d382), .second, .val (.long (eu.toInt64)), .second, .val (.double d402), .second, .val (.ref b419), .unset, .unset] []))
    refine own_go (fun t k => XS.aload X423.here hx rfl (hb hby at_280) rfl rfl k) ?_
    show own_G p.tables e below s _ _ _ (T423.setTop (mkF m 282 #[.val (.int p1), .val (.int p2), .val (.int p3), .val (.int p4), .val (.int p5), .val (.int p6), .val (.int g1), .val (.int g2), .val (.int (2 : Int32)), .val (.int k0), .val (.int k1), .val (.int k2), .val (.double d374), .second, .val (.double d376), .second, .val (.double d378), .second, .val (.double d379), .second, .val (.double d380), .second, .val (.double d381), .second, .val (.double d382), .second, .val (.long (eu.toInt64)), .second, .val (.double d402), .second, .val (.ref b419), .unset, .unset] [(.ref b419)]))
    refine own_go (fun t k => XS.dload X423.here hx rfl (hb hby at_282) rfl k) ?_
    show own_G p.tables e below s _ _ _ (T423.setTop (mkF m 284 #[.val (.int p1), .val (.int p2), .val (.int p3), .val (.int p4), .val (.int p5), .val (.int p6), .val (.int g1), .val (.int g2), .val (.int (2 : Int32)), .val (.int k0), .val (.int k1), .val (.int k2), .val (.double d374), .second, .val (.double d376), .second, .val (.double d378), .second, .val (.double d379), .second, .val (.double d380), .second, .val (.double d381), .second, .val (.double d382), .second, .val (.long (eu.toInt64)), .second, .val (.double d402), .second, .val (.ref b419), .unset, .unset] [(.double d402), (.ref b419)]))
    obtain ⟨cq424, kq424, q424a, q424b, q424c⟩ := isOf hZ hh423 Eb419
    obtain ⟨_, _, ⟨T424, L424, k424, n424⟩, -, X424, ⟨Lc424, hQ424, l424, y424, z424⟩, st424⟩ := X423.virtualBack hx (y := (⟨"com/example/options_into_arguments/optionsintoarguments/quality/Curve", "at", "(D)D"⟩ : MethodName)) (z := (⟨"com/example/options_into_arguments/optionsintoarguments/quality/Curve", "at", "(D)D"⟩ : MethodName)) hown (mvT hZ (hw _ (List.mem_of_getElem? (i := 20) rfl))) (mvT hZ (hw _ (List.mem_of_getElem? (i := 21) rfl))) (notFace_of_selects (args := #[]) (mvT hZ (hw _ (List.mem_of_getElem? (i := 23) rfl)))) (mvT hZ (hw _ (List.mem_of_getElem? (i := 23) rfl))) (mvT hZ (hw _ (List.mem_of_getElem? (i := 22) rfl))) (by decide) (backOf (W := 0) (rmC2_1 l Z a0 hw [] b419 xa419 ya419 kx419 ky419 d402 (8 * p1.toInt + 4 * g1.toInt) d379 d374 d380 d376 (8 * (p1).toInt) (2 * k0.toInt) (8 * (p1.toInt + g1.toInt)) (2 * k1.toInt) ((k1.toInt - k0.toInt) * g1.toInt) (k1.toInt - k0.toInt) T419.heap n0 z421 D402 D379 D374 D380 D376 Fx419 Fy419 Vx419 Vy419 (by omega) (by omega) (by omega) (own_prod (k1.toInt - k0.toInt) g1.toInt (by omega) (by omega)) (own_quo (k1.toInt - k0.toInt) g1.toInt (by omega)) (by omega) (by omega) (by omega) (own_bnd (by omega) (by omega) (by omega) (by omega)) (by omega) (by omega) (by omega)) hZ (hw _ (List.mem_of_getElem? (i := 24) rfl)) (hw _ (List.mem_of_getElem? (i := 6) rfl)) (by decide) (by decide)) q424a q424c (g := (mkF m 284 #[.val (.int p1), .val (.int p2), .val (.int p3), .val (.int p4), .val (.int p5), .val (.int p6), .val (.int g1), .val (.int g2), .val (.int (2 : Int32)), .val (.int k0), .val (.int k1), .val (.int k2), .val (.double d374), .second, .val (.double d376), .second, .val (.double d378), .second, .val (.double d379), .second, .val (.double d380), .second, .val (.double d381), .second, .val (.double d382), .second, .val (.long (eu.toInt64)), .second, .val (.double d402), .second, .val (.ref b419), .unset, .unset] [(.double d402), (.ref b419)])) rfl (by rw [hml]; rfl) (Steps.refl _) (argsL := [(.double d402)]) (rest := []) (lenOf pd__D_D rfl) rfl (by show 2 * 0 + _ ≤ _; exact Nat.le_of_eq rfl) (hb hby at_284) (fun _ _ => ⟨rfl, hh423, (by decide : 4 + 0 ≤ _), (by decide : 10 + 0 ≤ _)⟩)
    dsimp only [Pt.U, Pt.locs, Pt.cells, Pt.slots] at X424 l424 y424 z424 st424 hQ424
    subst l424 y424 z424
    obtain ⟨⟨w424, rfl, hw424⟩, N424q, hh424⟩ := hQ424
    have N424 := Fr.app N423 N424q
    refine own_go (fun t k => st424.trans k) ?_
    show own_G p.tables e below s _ _ _ (T424.setTop (mkF m 287 #[.val (.int p1), .val (.int p2), .val (.int p3), .val (.int p4), .val (.int p5), .val (.int p6), .val (.int g1), .val (.int g2), .val (.int (2 : Int32)), .val (.int k0), .val (.int k1), .val (.int k2), .val (.double d374), .second, .val (.double d376), .second, .val (.double d378), .second, .val (.double d379), .second, .val (.double d380), .second, .val (.double d381), .second, .val (.double d382), .second, .val (.long (eu.toInt64)), .second, .val (.double d402), .second, .val (.ref b419), .unset, .unset] [(.double w424)]))
    refine own_go (fun t k => XS.iload X424.here hx rfl (hb hby at_287) rfl k) ?_
    show own_G p.tables e below s _ _ _ (T424.setTop (mkF m 289 #[.val (.int p1), .val (.int p2), .val (.int p3), .val (.int p4), .val (.int p5), .val (.int p6), .val (.int g1), .val (.int g2), .val (.int (2 : Int32)), .val (.int k0), .val (.int k1), .val (.int k2), .val (.double d374), .second, .val (.double d376), .second, .val (.double d378), .second, .val (.double d379), .second, .val (.double d380), .second, .val (.double d381), .second, .val (.double d382), .second, .val (.long (eu.toInt64)), .second, .val (.double d402), .second, .val (.ref b419), .unset, .unset] [(.int k0), (.double w424)]))
    refine own_go (fun t k => XS.iload X424.here hx rfl (hb hby at_289) rfl k) ?_
    show own_G p.tables e below s _ _ _ (T424.setTop (mkF m 291 #[.val (.int p1), .val (.int p2), .val (.int p3), .val (.int p4), .val (.int p5), .val (.int p6), .val (.int g1), .val (.int g2), .val (.int (2 : Int32)), .val (.int k0), .val (.int k1), .val (.int k2), .val (.double d374), .second, .val (.double d376), .second, .val (.double d378), .second, .val (.double d379), .second, .val (.double d380), .second, .val (.double d381), .second, .val (.double d382), .second, .val (.long (eu.toInt64)), .second, .val (.double d402), .second, .val (.ref b419), .unset, .unset] [(.int k1), (.int k0), (.double w424)]))
    refine own_go (fun t k => XS.iadd X424.here hx rfl (hb hby at_291) rfl k) ?_
    show own_G p.tables e below s _ _ _ (T424.setTop (mkF m 292 #[.val (.int p1), .val (.int p2), .val (.int p3), .val (.int p4), .val (.int p5), .val (.int p6), .val (.int g1), .val (.int g2), .val (.int (2 : Int32)), .val (.int k0), .val (.int k1), .val (.int k2), .val (.double d374), .second, .val (.double d376), .second, .val (.double d378), .second, .val (.double d379), .second, .val (.double d380), .second, .val (.double d381), .second, .val (.double d382), .second, .val (.long (eu.toInt64)), .second, .val (.double d402), .second, .val (.ref b419), .unset, .unset] [(.int (k0 + k1)), (.double w424)]))
    obtain ⟨d425, hd425⟩ : ∃ z, Jvm.FP.i2d (k0 + k1) = z := ⟨_, rfl⟩
    have D425 : own_E (8 * (k0.toInt + k1.toInt)) d425 := by rw [← hd425]; exact own_iE (own_add32 (v := k0.toInt + k1.toInt) rfl (by omega) (by omega))
    refine own_go (fun t k => XS.i2dS X424.here hx rfl (hb hby at_292) rfl hd425 k) ?_
    show own_G p.tables e below s _ _ _ (T424.setTop (mkF m 293 #[.val (.int p1), .val (.int p2), .val (.int p3), .val (.int p4), .val (.int p5), .val (.int p6), .val (.int g1), .val (.int g2), .val (.int (2 : Int32)), .val (.int k0), .val (.int k1), .val (.int k2), .val (.double d374), .second, .val (.double d376), .second, .val (.double d378), .second, .val (.double d379), .second, .val (.double d380), .second, .val (.double d381), .second, .val (.double d382), .second, .val (.long (eu.toInt64)), .second, .val (.double d402), .second, .val (.ref b419), .unset, .unset] [(.double d425), (.double w424)]))
    refine own_go (fun t k => X424.ldc2DoubleC hx hown (mvT hZ (hw _ (List.mem_of_getElem? (i := 26) rfl))) (g := (mkF m 293 #[.val (.int p1), .val (.int p2), .val (.int p3), .val (.int p4), .val (.int p5), .val (.int p6), .val (.int g1), .val (.int g2), .val (.int (2 : Int32)), .val (.int k0), .val (.int k1), .val (.int k2), .val (.double d374), .second, .val (.double d376), .second, .val (.double d378), .second, .val (.double d379), .second, .val (.double d380), .second, .val (.double d381), .second, .val (.double d382), .second, .val (.long (eu.toInt64)), .second, .val (.double d402), .second, .val (.ref b419), .unset, .unset] [(.double d425), (.double w424)])) rfl (hb hby at_293) _ k) ?_
    show own_G p.tables e below s _ _ _ (T424.setTop (mkF m 296 #[.val (.int p1), .val (.int p2), .val (.int p3), .val (.int p4), .val (.int p5), .val (.int p6), .val (.int g1), .val (.int g2), .val (.int (2 : Int32)), .val (.int k0), .val (.int k1), .val (.int k2), .val (.double d374), .second, .val (.double d376), .second, .val (.double d378), .second, .val (.double d379), .second, .val (.double d380), .second, .val (.double d381), .second, .val (.double d382), .second, .val (.long (eu.toInt64)), .second, .val (.double d402), .second, .val (.ref b419), .unset, .unset] [(.double (4620693217682128896 : UInt64)), (.double d425), (.double w424)]))
    obtain ⟨d426, hd426⟩ : ∃ z, Jvm.FP.ddiv d425 (4620693217682128896 : UInt64) = z := ⟨_, rfl⟩
    have D426 : own_E (k0.toInt + k1.toInt) d426 := by rw [← hd426]; exact own_div D425 own_8 (by decide) (by omega) (by omega)
    refine own_go (fun t k => XS.ddivS X424.here hx rfl (hb hby at_296) rfl (by rw [hd426]; exact own_num D426) hd426 k) ?_
    show own_G p.tables e below s _ _ _ (T424.setTop (mkF m 297 #[.val (.int p1), .val (.int p2), .val (.int p3), .val (.int p4), .val (.int p5), .val (.int p6), .val (.int g1), .val (.int g2), .val (.int (2 : Int32)), .val (.int k0), .val (.int k1), .val (.int k2), .val (.double d374), .second, .val (.double d376), .second, .val (.double d378), .second, .val (.double d379), .second, .val (.double d380), .second, .val (.double d381), .second, .val (.double d382), .second, .val (.long (eu.toInt64)), .second, .val (.double d402), .second, .val (.ref b419), .unset, .unset] [(.double d426), (.double w424)]))
    refine own_go (fun t k => XS.dcmpS X424.here hx rfl (hb hby at_297) rfl (own_cmpv hw424 D426) k) ?_
    show own_G p.tables e below s _ _ _ (T424.setTop (mkF m 298 #[.val (.int p1), .val (.int p2), .val (.int p3), .val (.int p4), .val (.int p5), .val (.int p6), .val (.int g1), .val (.int g2), .val (.int (2 : Int32)), .val (.int k0), .val (.int k1), .val (.int k2), .val (.double d374), .second, .val (.double d376), .second, .val (.double d378), .second, .val (.double d379), .second, .val (.double d380), .second, .val (.double d381), .second, .val (.double d382), .second, .val (.long (eu.toInt64)), .second, .val (.double d402), .second, .val (.ref b419), .unset, .unset] [(.int (own_c (2 * k0.toInt + (k1.toInt - k0.toInt)) (k0.toInt + k1.toInt)))]))
    refine own_go (fun t k => XS.ifNo X424.here hx rfl (hb hby at_298) rfl (Jvm.Free.XT.i0_ne_f (own_c_eq (by omega))) k) ?_
    show own_G p.tables e below s _ _ _ (T424.setTop (mkF m 301 #[.val (.int p1), .val (.int p2), .val (.int p3), .val (.int p4), .val (.int p5), .val (.int p6), .val (.int g1), .val (.int g2), .val (.int (2 : Int32)), .val (.int k0), .val (.int k1), .val (.int k2), .val (.double d374), .second, .val (.double d376), .second, .val (.double d378), .second, .val (.double d379), .second, .val (.double d380), .second, .val (.double d381), .second, .val (.double d382), .second, .val (.long (eu.toInt64)), .second, .val (.double d402), .second, .val (.ref b419), .unset, .unset] []))
    refine own_go (fun t k => XS.aload X424.here hx rfl (hb hby at_301) rfl rfl k) ?_
    show own_G p.tables e below s _ _ _ (T424.setTop (mkF m 303 #[.val (.int p1), .val (.int p2), .val (.int p3), .val (.int p4), .val (.int p5), .val (.int p6), .val (.int g1), .val (.int g2), .val (.int (2 : Int32)), .val (.int k0), .val (.int k1), .val (.int k2), .val (.double d374), .second, .val (.double d376), .second, .val (.double d378), .second, .val (.double d379), .second, .val (.double d380), .second, .val (.double d381), .second, .val (.double d382), .second, .val (.long (eu.toInt64)), .second, .val (.double d402), .second, .val (.ref b419), .unset, .unset] [(.ref b419)]))
    refine own_go (fun t k => XS.dload X424.here hx rfl (hb hby at_303) rfl k) ?_
    show own_G p.tables e below s _ _ _ (T424.setTop (mkF m 305 #[.val (.int p1), .val (.int p2), .val (.int p3), .val (.int p4), .val (.int p5), .val (.int p6), .val (.int g1), .val (.int g2), .val (.int (2 : Int32)), .val (.int k0), .val (.int k1), .val (.int k2), .val (.double d374), .second, .val (.double d376), .second, .val (.double d378), .second, .val (.double d379), .second, .val (.double d380), .second, .val (.double d381), .second, .val (.double d382), .second, .val (.long (eu.toInt64)), .second, .val (.double d402), .second, .val (.ref b419), .unset, .unset] [(.double d380), (.ref b419)]))
    obtain ⟨cq427, kq427, q427a, q427b, q427c⟩ := isOf hZ hh424 Eb419
    obtain ⟨_, _, ⟨T427, L427, k427, n427⟩, -, X427, ⟨Lc427, hQ427, l427, y427, z427⟩, st427⟩ := X424.virtualBack hx (y := (⟨"com/example/options_into_arguments/optionsintoarguments/quality/Curve", "at", "(D)D"⟩ : MethodName)) (z := (⟨"com/example/options_into_arguments/optionsintoarguments/quality/Curve", "at", "(D)D"⟩ : MethodName)) hown (mvT hZ (hw _ (List.mem_of_getElem? (i := 20) rfl))) (mvT hZ (hw _ (List.mem_of_getElem? (i := 21) rfl))) (notFace_of_selects (args := #[]) (mvT hZ (hw _ (List.mem_of_getElem? (i := 23) rfl)))) (mvT hZ (hw _ (List.mem_of_getElem? (i := 23) rfl))) (mvT hZ (hw _ (List.mem_of_getElem? (i := 22) rfl))) (by decide) (backOf (W := 0) (rmB2 l Z a0 hw [] b419 xa419 ya419 kx419 ky419 d380 (8 * (p1.toInt + g1.toInt)) d379 d374 d380 d376 (8 * (p1).toInt) (2 * k0.toInt) (8 * (p1.toInt + g1.toInt)) (2 * k1.toInt) T419.heap n0 z421 D380 D379 D374 D380 D376 Fx419 Fy419 Vx419 Vy419 (by omega) (by omega)) hZ (hw _ (List.mem_of_getElem? (i := 24) rfl)) (hw _ (List.mem_of_getElem? (i := 6) rfl)) (by decide) (by decide)) q427a q427c (g := (mkF m 305 #[.val (.int p1), .val (.int p2), .val (.int p3), .val (.int p4), .val (.int p5), .val (.int p6), .val (.int g1), .val (.int g2), .val (.int (2 : Int32)), .val (.int k0), .val (.int k1), .val (.int k2), .val (.double d374), .second, .val (.double d376), .second, .val (.double d378), .second, .val (.double d379), .second, .val (.double d380), .second, .val (.double d381), .second, .val (.double d382), .second, .val (.long (eu.toInt64)), .second, .val (.double d402), .second, .val (.ref b419), .unset, .unset] [(.double d380), (.ref b419)])) rfl (by rw [hml]; rfl) (Steps.refl _) (argsL := [(.double d380)]) (rest := []) (lenOf pd__D_D rfl) rfl (by show 2 * 0 + _ ≤ _; exact Nat.le_of_eq rfl) (hb hby at_305) (fun _ _ => ⟨rfl, hh424, (by decide : 4 + 0 ≤ _), (by decide : 10 + 0 ≤ _)⟩)
    dsimp only [Pt.U, Pt.locs, Pt.cells, Pt.slots] at X427 l427 y427 z427 st427 hQ427
    subst l427 y427 z427
    obtain ⟨⟨w427, rfl, hw427⟩, N427q, hh427⟩ := hQ427
    have N427 := Fr.app N424 N427q
    refine own_go (fun t k => st427.trans k) ?_
    show own_G p.tables e below s _ _ _ (T427.setTop (mkF m 308 #[.val (.int p1), .val (.int p2), .val (.int p3), .val (.int p4), .val (.int p5), .val (.int p6), .val (.int g1), .val (.int g2), .val (.int (2 : Int32)), .val (.int k0), .val (.int k1), .val (.int k2), .val (.double d374), .second, .val (.double d376), .second, .val (.double d378), .second, .val (.double d379), .second, .val (.double d380), .second, .val (.double d381), .second, .val (.double d382), .second, .val (.long (eu.toInt64)), .second, .val (.double d402), .second, .val (.ref b419), .unset, .unset] [(.double w427)]))
    refine own_go (fun t k => XS.dload X427.here hx rfl (hb hby at_308) rfl k) ?_
    show own_G p.tables e below s _ _ _ (T427.setTop (mkF m 310 #[.val (.int p1), .val (.int p2), .val (.int p3), .val (.int p4), .val (.int p5), .val (.int p6), .val (.int g1), .val (.int g2), .val (.int (2 : Int32)), .val (.int k0), .val (.int k1), .val (.int k2), .val (.double d374), .second, .val (.double d376), .second, .val (.double d378), .second, .val (.double d379), .second, .val (.double d380), .second, .val (.double d381), .second, .val (.double d382), .second, .val (.long (eu.toInt64)), .second, .val (.double d402), .second, .val (.ref b419), .unset, .unset] [(.double d376), (.double w427)]))
    refine own_go (fun t k => XS.dcmpS X427.here hx rfl (hb hby at_310) rfl (own_cmpv hw427 D376) k) ?_
    show own_G p.tables e below s _ _ _ (T427.setTop (mkF m 311 #[.val (.int p1), .val (.int p2), .val (.int p3), .val (.int p4), .val (.int p5), .val (.int p6), .val (.int g1), .val (.int g2), .val (.int (2 : Int32)), .val (.int k0), .val (.int k1), .val (.int k2), .val (.double d374), .second, .val (.double d376), .second, .val (.double d378), .second, .val (.double d379), .second, .val (.double d380), .second, .val (.double d381), .second, .val (.double d382), .second, .val (.long (eu.toInt64)), .second, .val (.double d402), .second, .val (.ref b419), .unset, .unset] [(.int (own_c (2 * k1.toInt) (2 * k1.toInt)))]))
    refine own_go (fun t k => XS.ifNo X427.here hx rfl (hb hby at_311) rfl (Jvm.Free.XT.i0_ne_f (own_c_eq (by omega))) k) ?_
    show own_G p.tables e below s _ _ _ (T427.setTop (mkF m 314 #[.val (.int p1), .val (.int p2), .val (.int p3), .val (.int p4), .val (.int p5), .val (.int p6), .val (.int g1), .val (.int g2), .val (.int (2 : Int32)), .val (.int k0), .val (.int k1), .val (.int k2), .val (.double d374), .second, .val (.double d376), .second, .val (.double d378), .second, .val (.double d379), .second, .val (.double d380), .second, .val (.double d381), .second, .val (.double d382), .second, .val (.long (eu.toInt64)), .second, .val (.double d402), .second, .val (.ref b419), .unset, .unset] []))
    refine own_go (fun t k => XS.aload X427.here hx rfl (hb hby at_314) rfl rfl k) ?_
    show own_G p.tables e below s _ _ _ (T427.setTop (mkF m 316 #[.val (.int p1), .val (.int p2), .val (.int p3), .val (.int p4), .val (.int p5), .val (.int p6), .val (.int g1), .val (.int g2), .val (.int (2 : Int32)), .val (.int k0), .val (.int k1), .val (.int k2), .val (.double d374), .second, .val (.double d376), .second, .val (.double d378), .second, .val (.double d379), .second, .val (.double d380), .second, .val (.double d381), .second, .val (.double d382), .second, .val (.long (eu.toInt64)), .second, .val (.double d402), .second, .val (.ref b419), .unset, .unset] [(.ref b419)]))
    refine own_go (fun t k => XS.iloadN X427.here hx rfl (hb hby at_316) rfl k) ?_
    show own_G p.tables e below s _ _ _ (T427.setTop (mkF m 317 #[.val (.int p1), .val (.int p2), .val (.int p3), .val (.int p4), .val (.int p5), .val (.int p6), .val (.int g1), .val (.int g2), .val (.int (2 : Int32)), .val (.int k0), .val (.int k1), .val (.int k2), .val (.double d374), .second, .val (.double d376), .second, .val (.double d378), .second, .val (.double d379), .second, .val (.double d380), .second, .val (.double d381), .second, .val (.double d382), .second, .val (.long (eu.toInt64)), .second, .val (.double d402), .second, .val (.ref b419), .unset, .unset] [(.int p1), (.ref b419)]))
    refine own_go (fun t k => XS.i2l X427.here hx rfl (hb hby at_317) rfl k) ?_
    show own_G p.tables e below s _ _ _ (T427.setTop (mkF m 318 #[.val (.int p1), .val (.int p2), .val (.int p3), .val (.int p4), .val (.int p5), .val (.int p6), .val (.int g1), .val (.int g2), .val (.int (2 : Int32)), .val (.int k0), .val (.int k1), .val (.int k2), .val (.double d374), .second, .val (.double d376), .second, .val (.double d378), .second, .val (.double d379), .second, .val (.double d380), .second, .val (.double d381), .second, .val (.double d382), .second, .val (.long (eu.toInt64)), .second, .val (.double d402), .second, .val (.ref b419), .unset, .unset] [(.long (p1.toInt64)), (.ref b419)]))
    refine own_go (fun t k => XS.iload X427.here hx rfl (hb hby at_318) rfl k) ?_
    show own_G p.tables e below s _ _ _ (T427.setTop (mkF m 320 #[.val (.int p1), .val (.int p2), .val (.int p3), .val (.int p4), .val (.int p5), .val (.int p6), .val (.int g1), .val (.int g2), .val (.int (2 : Int32)), .val (.int k0), .val (.int k1), .val (.int k2), .val (.double d374), .second, .val (.double d376), .second, .val (.double d378), .second, .val (.double d379), .second, .val (.double d380), .second, .val (.double d381), .second, .val (.double d382), .second, .val (.long (eu.toInt64)), .second, .val (.double d402), .second, .val (.ref b419), .unset, .unset] [(.int g1), (.long (p1.toInt64)), (.ref b419)]))
    refine own_go (fun t k => XS.i2l X427.here hx rfl (hb hby at_320) rfl k) ?_
    show own_G p.tables e below s _ _ _ (T427.setTop (mkF m 321 #[.val (.int p1), .val (.int p2), .val (.int p3), .val (.int p4), .val (.int p5), .val (.int p6), .val (.int g1), .val (.int g2), .val (.int (2 : Int32)), .val (.int k0), .val (.int k1), .val (.int k2), .val (.double d374), .second, .val (.double d376), .second, .val (.double d378), .second, .val (.double d379), .second, .val (.double d380), .second, .val (.double d381), .second, .val (.double d382), .second, .val (.long (eu.toInt64)), .second, .val (.double d402), .second, .val (.ref b419), .unset, .unset] [(.long (g1.toInt64)), (.long (p1.toInt64)), (.ref b419)]))
    refine own_go (fun t k => XS.ladd X427.here hx rfl (hb hby at_321) rfl k) ?_
    show own_G p.tables e below s _ _ _ (T427.setTop (mkF m 322 #[.val (.int p1), .val (.int p2), .val (.int p3), .val (.int p4), .val (.int p5), .val (.int p6), .val (.int g1), .val (.int g2), .val (.int (2 : Int32)), .val (.int k0), .val (.int k1), .val (.int k2), .val (.double d374), .second, .val (.double d376), .second, .val (.double d378), .second, .val (.double d379), .second, .val (.double d380), .second, .val (.double d381), .second, .val (.double d382), .second, .val (.long (eu.toInt64)), .second, .val (.double d402), .second, .val (.ref b419), .unset, .unset] [(.long ((p1.toInt64) + (g1.toInt64))), (.ref b419)]))
    refine own_go (fun t k => XS.lload X427.here hx rfl (hb hby at_322) rfl k) ?_
    show own_G p.tables e below s _ _ _ (T427.setTop (mkF m 324 #[.val (.int p1), .val (.int p2), .val (.int p3), .val (.int p4), .val (.int p5), .val (.int p6), .val (.int g1), .val (.int g2), .val (.int (2 : Int32)), .val (.int k0), .val (.int k1), .val (.int k2), .val (.double d374), .second, .val (.double d376), .second, .val (.double d378), .second, .val (.double d379), .second, .val (.double d380), .second, .val (.double d381), .second, .val (.double d382), .second, .val (.long (eu.toInt64)), .second, .val (.double d402), .second, .val (.ref b419), .unset, .unset] [(.long (eu.toInt64)), (.long ((p1.toInt64) + (g1.toInt64))), (.ref b419)]))
    refine own_go (fun t k => XS.ladd X427.here hx rfl (hb hby at_324) rfl k) ?_
    show own_G p.tables e below s _ _ _ (T427.setTop (mkF m 325 #[.val (.int p1), .val (.int p2), .val (.int p3), .val (.int p4), .val (.int p5), .val (.int p6), .val (.int g1), .val (.int g2), .val (.int (2 : Int32)), .val (.int k0), .val (.int k1), .val (.int k2), .val (.double d374), .second, .val (.double d376), .second, .val (.double d378), .second, .val (.double d379), .second, .val (.double d380), .second, .val (.double d381), .second, .val (.double d382), .second, .val (.long (eu.toInt64)), .second, .val (.double d402), .second, .val (.ref b419), .unset, .unset] [(.long (((p1.toInt64) + (g1.toInt64)) + (eu.toInt64))), (.ref b419)]))
    obtain ⟨d428, hd428⟩ : ∃ z, Jvm.FP.l2d (((p1.toInt64) + (g1.toInt64)) + (eu.toInt64)) = z := ⟨_, rfl⟩
    have D428 : own_E (8 * (p1.toInt + g1.toInt + eu.toInt)) d428 := by rw [← hd428]; exact own_lE (own_add64 (v := p1.toInt + g1.toInt + eu.toInt) (by rw [own_add64 (v := p1.toInt + g1.toInt) (by rw [own_w, own_w]) (by omega) (by omega), own_w]) (by omega) (by omega)) (by omega)
    refine own_go (fun t k => XS.l2dS X427.here hx rfl (hb hby at_325) rfl hd428 k) ?_
    show own_G p.tables e below s _ _ _ (T427.setTop (mkF m 326 #[.val (.int p1), .val (.int p2), .val (.int p3), .val (.int p4), .val (.int p5), .val (.int p6), .val (.int g1), .val (.int g2), .val (.int (2 : Int32)), .val (.int k0), .val (.int k1), .val (.int k2), .val (.double d374), .second, .val (.double d376), .second, .val (.double d378), .second, .val (.double d379), .second, .val (.double d380), .second, .val (.double d381), .second, .val (.double d382), .second, .val (.long (eu.toInt64)), .second, .val (.double d402), .second, .val (.ref b419), .unset, .unset] [(.double d428), (.ref b419)]))
    obtain ⟨cq429, kq429, q429a, q429b, q429c⟩ := isOf hZ hh427 Eb419
    obtain ⟨_, _, ⟨T429, L429, k429, n429⟩, -, X429, ⟨Lc429, hQ429, l429, y429, z429⟩, st429⟩ := X427.virtualBack hx (y := (⟨"com/example/options_into_arguments/optionsintoarguments/quality/Curve", "at", "(D)D"⟩ : MethodName)) (z := (⟨"com/example/options_into_arguments/optionsintoarguments/quality/Curve", "at", "(D)D"⟩ : MethodName)) hown (mvT hZ (hw _ (List.mem_of_getElem? (i := 20) rfl))) (mvT hZ (hw _ (List.mem_of_getElem? (i := 21) rfl))) (notFace_of_selects (args := #[]) (mvT hZ (hw _ (List.mem_of_getElem? (i := 23) rfl)))) (mvT hZ (hw _ (List.mem_of_getElem? (i := 23) rfl))) (mvT hZ (hw _ (List.mem_of_getElem? (i := 22) rfl))) (by decide) (backOf (W := 0) (rmB2 l Z a0 hw [] b419 xa419 ya419 kx419 ky419 d428 (8 * (p1.toInt + g1.toInt + eu.toInt)) d379 d374 d380 d376 (8 * (p1).toInt) (2 * k0.toInt) (8 * (p1.toInt + g1.toInt)) (2 * k1.toInt) T419.heap n0 z421 D428 D379 D374 D380 D376 Fx419 Fy419 Vx419 Vy419 (by omega) (by omega)) hZ (hw _ (List.mem_of_getElem? (i := 24) rfl)) (hw _ (List.mem_of_getElem? (i := 6) rfl)) (by decide) (by decide)) q429a q429c (g := (mkF m 326 #[.val (.int p1), .val (.int p2), .val (.int p3), .val (.int p4), .val (.int p5), .val (.int p6), .val (.int g1), .val (.int g2), .val (.int (2 : Int32)), .val (.int k0), .val (.int k1), .val (.int k2), .val (.double d374), .second, .val (.double d376), .second, .val (.double d378), .second, .val (.double d379), .second, .val (.double d380), .second, .val (.double d381), .second, .val (.double d382), .second, .val (.long (eu.toInt64)), .second, .val (.double d402), .second, .val (.ref b419), .unset, .unset] [(.double d428), (.ref b419)])) rfl (by rw [hml]; rfl) (Steps.refl _) (argsL := [(.double d428)]) (rest := []) (lenOf pd__D_D rfl) rfl (by show 2 * 0 + _ ≤ _; exact Nat.le_of_eq rfl) (hb hby at_326) (fun _ _ => ⟨rfl, hh427, (by decide : 4 + 0 ≤ _), (by decide : 10 + 0 ≤ _)⟩)
    dsimp only [Pt.U, Pt.locs, Pt.cells, Pt.slots] at X429 l429 y429 z429 st429 hQ429
    subst l429 y429 z429
    obtain ⟨⟨w429, rfl, hw429⟩, N429q, hh429⟩ := hQ429
    have N429 := Fr.app N427 N429q
    refine own_go (fun t k => st429.trans k) ?_
    show own_G p.tables e below s _ _ _ (T429.setTop (mkF m 329 #[.val (.int p1), .val (.int p2), .val (.int p3), .val (.int p4), .val (.int p5), .val (.int p6), .val (.int g1), .val (.int g2), .val (.int (2 : Int32)), .val (.int k0), .val (.int k1), .val (.int k2), .val (.double d374), .second, .val (.double d376), .second, .val (.double d378), .second, .val (.double d379), .second, .val (.double d380), .second, .val (.double d381), .second, .val (.double d382), .second, .val (.long (eu.toInt64)), .second, .val (.double d402), .second, .val (.ref b419), .unset, .unset] [(.double w429)]))
    refine own_go (fun t k => XS.dload X429.here hx rfl (hb hby at_329) rfl k) ?_
    show own_G p.tables e below s _ _ _ (T429.setTop (mkF m 331 #[.val (.int p1), .val (.int p2), .val (.int p3), .val (.int p4), .val (.int p5), .val (.int p6), .val (.int g1), .val (.int g2), .val (.int (2 : Int32)), .val (.int k0), .val (.int k1), .val (.int k2), .val (.double d374), .second, .val (.double d376), .second, .val (.double d378), .second, .val (.double d379), .second, .val (.double d380), .second, .val (.double d381), .second, .val (.double d382), .second, .val (.long (eu.toInt64)), .second, .val (.double d402), .second, .val (.ref b419), .unset, .unset] [(.double d376), (.double w429)]))
    refine own_go (fun t k => XS.dcmpS X429.here hx rfl (hb hby at_331) rfl (own_cmpv hw429 D376) k) ?_
    show own_G p.tables e below s _ _ _ (T429.setTop (mkF m 332 #[.val (.int p1), .val (.int p2), .val (.int p3), .val (.int p4), .val (.int p5), .val (.int p6), .val (.int g1), .val (.int g2), .val (.int (2 : Int32)), .val (.int k0), .val (.int k1), .val (.int k2), .val (.double d374), .second, .val (.double d376), .second, .val (.double d378), .second, .val (.double d379), .second, .val (.double d380), .second, .val (.double d381), .second, .val (.double d382), .second, .val (.long (eu.toInt64)), .second, .val (.double d402), .second, .val (.ref b419), .unset, .unset] [(.int (own_c (2 * k1.toInt) (2 * k1.toInt)))]))
    refine own_go (fun t k => XS.ifNo X429.here hx rfl (hb hby at_332) rfl (Jvm.Free.XT.i0_ne_f (own_c_eq (by omega))) k) ?_
    show own_G p.tables e below s _ _ _ (T429.setTop (mkF m 335 #[.val (.int p1), .val (.int p2), .val (.int p3), .val (.int p4), .val (.int p5), .val (.int p6), .val (.int g1), .val (.int g2), .val (.int (2 : Int32)), .val (.int k0), .val (.int k1), .val (.int k2), .val (.double d374), .second, .val (.double d376), .second, .val (.double d378), .second, .val (.double d379), .second, .val (.double d380), .second, .val (.double d381), .second, .val (.double d382), .second, .val (.long (eu.toInt64)), .second, .val (.double d402), .second, .val (.ref b419), .unset, .unset] []))
    refine own_go (fun t k => XS.iconst X429.here hx rfl (hb hby at_335) k) ?_
    show own_G p.tables e below s _ _ _ (T429.setTop (mkF m 336 #[.val (.int p1), .val (.int p2), .val (.int p3), .val (.int p4), .val (.int p5), .val (.int p6), .val (.int g1), .val (.int g2), .val (.int (2 : Int32)), .val (.int k0), .val (.int k1), .val (.int k2), .val (.double d374), .second, .val (.double d376), .second, .val (.double d378), .second, .val (.double d379), .second, .val (.double d380), .second, .val (.double d381), .second, .val (.double d382), .second, .val (.long (eu.toInt64)), .second, .val (.double d402), .second, .val (.ref b419), .unset, .unset] [(.int (1 : Int32))]))
    refine own_go (fun t k => XS.goto X429.here hx rfl (pc0 := 336) (pc' := 340) rfl (hb hby at_336) (by decide) (by decide) k) ?_
    show own_G p.tables e below s _ _ _ (T429.setTop (mkF m 340 #[.val (.int p1), .val (.int p2), .val (.int p3), .val (.int p4), .val (.int p5), .val (.int p6), .val (.int g1), .val (.int g2), .val (.int (2 : Int32)), .val (.int k0), .val (.int k1), .val (.int k2), .val (.double d374), .second, .val (.double d376), .second, .val (.double d378), .second, .val (.double d379), .second, .val (.double d380), .second, .val (.double d381), .second, .val (.double d382), .second, .val (.long (eu.toInt64)), .second, .val (.double d402), .second, .val (.ref b419), .unset, .unset] [(.int (1 : Int32))]))
    exact own_retN X429 hx hlk (t := .boolean) (z' := (1 : Int32)) Bd.returns (by simp) (hb hby at_340) (rfl) (by rw [hh429]; exact ⟨rfl, N429⟩) (by decide) (by decide)
  · show own_G p.tables e below s _ _ _ (s₁.setTop (mkF m 138 #[.val (.int p1), .val (.int p2), .val (.int p3), .val (.int p4), .val (.int p5), .val (.int p6), .val (.int g1), .val (.int g2), .val (.int (3 : Int32)), .val (.int k0), .val (.int k1), .val (.int k2), .val (.double d374), .second, .val (.double d376), .second, .val (.double d378), .second, .val (.double d379), .second, .val (.double d380), .second, .val (.double d381), .second, .val (.double d382), .second, .val (.long (eu.toInt64)), .second, .unset, .unset, .unset, .unset, .unset] [(.int (1 : Int32)), (.int (3 : Int32))]))
    refine own_go (fun t k => XS.icmpYes X0.here hx rfl (pc0 := 138) (pc' := 208) rfl (hb hby at_138) rfl (by decide) (by decide) (by decide) k) ?_
    show own_G p.tables e below s _ _ _ (s₁.setTop (mkF m 208 #[.val (.int p1), .val (.int p2), .val (.int p3), .val (.int p4), .val (.int p5), .val (.int p6), .val (.int g1), .val (.int g2), .val (.int (3 : Int32)), .val (.int k0), .val (.int k1), .val (.int k2), .val (.double d374), .second, .val (.double d376), .second, .val (.double d378), .second, .val (.double d379), .second, .val (.double d380), .second, .val (.double d381), .second, .val (.double d382), .second, .val (.long (eu.toInt64)), .second, .unset, .unset, .unset, .unset, .unset] []))
    refine own_go (fun t k => XS.dload X0.here hx rfl (hb hby at_208) rfl k) ?_
    show own_G p.tables e below s _ _ _ (s₁.setTop (mkF m 210 #[.val (.int p1), .val (.int p2), .val (.int p3), .val (.int p4), .val (.int p5), .val (.int p6), .val (.int g1), .val (.int g2), .val (.int (3 : Int32)), .val (.int k0), .val (.int k1), .val (.int k2), .val (.double d374), .second, .val (.double d376), .second, .val (.double d378), .second, .val (.double d379), .second, .val (.double d380), .second, .val (.double d381), .second, .val (.double d382), .second, .val (.long (eu.toInt64)), .second, .unset, .unset, .unset, .unset, .unset] [(.double d379)]))
    refine own_go (fun t k => XS.iload X0.here hx rfl (hb hby at_210) rfl k) ?_
    show own_G p.tables e below s _ _ _ (s₁.setTop (mkF m 212 #[.val (.int p1), .val (.int p2), .val (.int p3), .val (.int p4), .val (.int p5), .val (.int p6), .val (.int g1), .val (.int g2), .val (.int (3 : Int32)), .val (.int k0), .val (.int k1), .val (.int k2), .val (.double d374), .second, .val (.double d376), .second, .val (.double d378), .second, .val (.double d379), .second, .val (.double d380), .second, .val (.double d381), .second, .val (.double d382), .second, .val (.long (eu.toInt64)), .second, .unset, .unset, .unset, .unset, .unset] [(.int g1), (.double d379)]))
    obtain ⟨d430, hd430⟩ : ∃ z, Jvm.FP.i2d g1 = z := ⟨_, rfl⟩
    have D430 : own_E (8 * (g1).toInt) d430 := by rw [← hd430]; exact own_i2d g1
    refine own_go (fun t k => XS.i2dS X0.here hx rfl (hb hby at_212) rfl hd430 k) ?_
    show own_G p.tables e below s _ _ _ (s₁.setTop (mkF m 213 #[.val (.int p1), .val (.int p2), .val (.int p3), .val (.int p4), .val (.int p5), .val (.int p6), .val (.int g1), .val (.int g2), .val (.int (3 : Int32)), .val (.int k0), .val (.int k1), .val (.int k2), .val (.double d374), .second, .val (.double d376), .second, .val (.double d378), .second, .val (.double d379), .second, .val (.double d380), .second, .val (.double d381), .second, .val (.double d382), .second, .val (.long (eu.toInt64)), .second, .unset, .unset, .unset, .unset, .unset] [(.double d430), (.double d379)]))
    refine own_go (fun t k => X0.ldc2DoubleC hx hown (mvT hZ (hw _ (List.mem_of_getElem? (i := 25) rfl))) (g := (mkF m 213 #[.val (.int p1), .val (.int p2), .val (.int p3), .val (.int p4), .val (.int p5), .val (.int p6), .val (.int g1), .val (.int g2), .val (.int (3 : Int32)), .val (.int k0), .val (.int k1), .val (.int k2), .val (.double d374), .second, .val (.double d376), .second, .val (.double d378), .second, .val (.double d379), .second, .val (.double d380), .second, .val (.double d381), .second, .val (.double d382), .second, .val (.long (eu.toInt64)), .second, .unset, .unset, .unset, .unset, .unset] [(.double d430), (.double d379)])) rfl (hb hby at_213) _ k) ?_
    show own_G p.tables e below s _ _ _ (s₁.setTop (mkF m 216 #[.val (.int p1), .val (.int p2), .val (.int p3), .val (.int p4), .val (.int p5), .val (.int p6), .val (.int g1), .val (.int g2), .val (.int (3 : Int32)), .val (.int k0), .val (.int k1), .val (.int k2), .val (.double d374), .second, .val (.double d376), .second, .val (.double d378), .second, .val (.double d379), .second, .val (.double d380), .second, .val (.double d381), .second, .val (.double d382), .second, .val (.long (eu.toInt64)), .second, .unset, .unset, .unset, .unset, .unset] [(.double (4611686018427387904 : UInt64)), (.double d430), (.double d379)]))
    obtain ⟨d431, hd431⟩ : ∃ z, Jvm.FP.ddiv d430 (4611686018427387904 : UInt64) = z := ⟨_, rfl⟩
    have D431 : own_E (4 * g1.toInt) d431 := by rw [← hd431]; exact own_div D430 own_2 (by decide) (by omega) (by omega)
    refine own_go (fun t k => XS.ddivS X0.here hx rfl (hb hby at_216) rfl (by rw [hd431]; exact own_num D431) hd431 k) ?_
    show own_G p.tables e below s _ _ _ (s₁.setTop (mkF m 217 #[.val (.int p1), .val (.int p2), .val (.int p3), .val (.int p4), .val (.int p5), .val (.int p6), .val (.int g1), .val (.int g2), .val (.int (3 : Int32)), .val (.int k0), .val (.int k1), .val (.int k2), .val (.double d374), .second, .val (.double d376), .second, .val (.double d378), .second, .val (.double d379), .second, .val (.double d380), .second, .val (.double d381), .second, .val (.double d382), .second, .val (.long (eu.toInt64)), .second, .unset, .unset, .unset, .unset, .unset] [(.double d431), (.double d379)]))
    obtain ⟨d432, hd432⟩ : ∃ z, Jvm.FP.dadd d379 d431 = z := ⟨_, rfl⟩
    have D432 : own_E (8 * p1.toInt + 4 * g1.toInt) d432 := by rw [← hd432]; exact own_add D379 D431 (by omega)
    refine own_go (fun t k => XS.daddS X0.here hx rfl (hb hby at_217) rfl (by rw [hd432]; exact own_num D432) hd432 k) ?_
    show own_G p.tables e below s _ _ _ (s₁.setTop (mkF m 218 #[.val (.int p1), .val (.int p2), .val (.int p3), .val (.int p4), .val (.int p5), .val (.int p6), .val (.int g1), .val (.int g2), .val (.int (3 : Int32)), .val (.int k0), .val (.int k1), .val (.int k2), .val (.double d374), .second, .val (.double d376), .second, .val (.double d378), .second, .val (.double d379), .second, .val (.double d380), .second, .val (.double d381), .second, .val (.double d382), .second, .val (.long (eu.toInt64)), .second, .unset, .unset, .unset, .unset, .unset] [(.double d432)]))
    refine own_go (fun t k => XS.dstore X0.here hx rfl (hb hby at_218) rfl (l' := #[.val (.int p1), .val (.int p2), .val (.int p3), .val (.int p4), .val (.int p5), .val (.int p6), .val (.int g1), .val (.int g2), .val (.int (3 : Int32)), .val (.int k0), .val (.int k1), .val (.int k2), .val (.double d374), .second, .val (.double d376), .second, .val (.double d378), .second, .val (.double d379), .second, .val (.double d380), .second, .val (.double d381), .second, .val (.double d382), .second, .val (.long (eu.toInt64)), .second, .val (.double d432), .second, .unset, .unset, .unset]) rfl k) ?_
    show own_G p.tables e below s _ _ _ (s₁.setTop (mkF m 220 #[.val (.int p1), .val (.int p2), .val (.int p3), .val (.int p4), .val (.int p5), .val (.int p6), .val (.int g1), .val (.int g2), .val (.int (3 : Int32)), .val (.int k0), .val (.int k1), .val (.int k2), .val (.double d374), .second, .val (.double d376), .second, .val (.double d378), .second, .val (.double d379), .second, .val (.double d380), .second, .val (.double d381), .second, .val (.double d382), .second, .val (.long (eu.toInt64)), .second, .val (.double d432), .second, .unset, .unset, .unset] []))
    refine own_go (fun t k => XS.iload X0.here hx rfl (hb hby at_220) rfl k) ?_
    show own_G p.tables e below s _ _ _ (s₁.setTop (mkF m 222 #[.val (.int p1), .val (.int p2), .val (.int p3), .val (.int p4), .val (.int p5), .val (.int p6), .val (.int g1), .val (.int g2), .val (.int (3 : Int32)), .val (.int k0), .val (.int k1), .val (.int k2), .val (.double d374), .second, .val (.double d376), .second, .val (.double d378), .second, .val (.double d379), .second, .val (.double d380), .second, .val (.double d381), .second, .val (.double d382), .second, .val (.long (eu.toInt64)), .second, .val (.double d432), .second, .unset, .unset, .unset] [(.int (3 : Int32))]))
    refine own_go (fun t k => XS.iconst X0.here hx rfl (hb hby at_222) k) ?_
    show own_G p.tables e below s _ _ _ (s₁.setTop (mkF m 223 #[.val (.int p1), .val (.int p2), .val (.int p3), .val (.int p4), .val (.int p5), .val (.int p6), .val (.int g1), .val (.int g2), .val (.int (3 : Int32)), .val (.int k0), .val (.int k1), .val (.int k2), .val (.double d374), .second, .val (.double d376), .second, .val (.double d378), .second, .val (.double d379), .second, .val (.double d380), .second, .val (.double d381), .second, .val (.double d382), .second, .val (.long (eu.toInt64)), .second, .val (.double d432), .second, .unset, .unset, .unset] [(.int (2 : Int32)), (.int (3 : Int32))]))
    refine own_go (fun t k => XS.icmpYes X0.here hx rfl (pc0 := 223) (pc' := 341) rfl (hb hby at_223) rfl (by decide) (by decide) (by decide) k) ?_
    show own_G p.tables e below s _ _ _ (s₁.setTop (mkF m 341 #[.val (.int p1), .val (.int p2), .val (.int p3), .val (.int p4), .val (.int p5), .val (.int p6), .val (.int g1), .val (.int g2), .val (.int (3 : Int32)), .val (.int k0), .val (.int k1), .val (.int k2), .val (.double d374), .second, .val (.double d376), .second, .val (.double d378), .second, .val (.double d379), .second, .val (.double d380), .second, .val (.double d381), .second, .val (.double d382), .second, .val (.long (eu.toInt64)), .second, .val (.double d432), .second, .unset, .unset, .unset] []))
    refine own_go (fun t k => XS.dload X0.here hx rfl (hb hby at_341) rfl k) ?_
    show own_G p.tables e below s _ _ _ (s₁.setTop (mkF m 343 #[.val (.int p1), .val (.int p2), .val (.int p3), .val (.int p4), .val (.int p5), .val (.int p6), .val (.int g1), .val (.int g2), .val (.int (3 : Int32)), .val (.int k0), .val (.int k1), .val (.int k2), .val (.double d374), .second, .val (.double d376), .second, .val (.double d378), .second, .val (.double d379), .second, .val (.double d380), .second, .val (.double d381), .second, .val (.double d382), .second, .val (.long (eu.toInt64)), .second, .val (.double d432), .second, .unset, .unset, .unset] [(.double d380)]))
    refine own_go (fun t k => XS.iload X0.here hx rfl (hb hby at_343) rfl k) ?_
    show own_G p.tables e below s _ _ _ (s₁.setTop (mkF m 345 #[.val (.int p1), .val (.int p2), .val (.int p3), .val (.int p4), .val (.int p5), .val (.int p6), .val (.int g1), .val (.int g2), .val (.int (3 : Int32)), .val (.int k0), .val (.int k1), .val (.int k2), .val (.double d374), .second, .val (.double d376), .second, .val (.double d378), .second, .val (.double d379), .second, .val (.double d380), .second, .val (.double d381), .second, .val (.double d382), .second, .val (.long (eu.toInt64)), .second, .val (.double d432), .second, .unset, .unset, .unset] [(.int g2), (.double d380)]))
    obtain ⟨d433, hd433⟩ : ∃ z, Jvm.FP.i2d g2 = z := ⟨_, rfl⟩
    have D433 : own_E (8 * (g2).toInt) d433 := by rw [← hd433]; exact own_i2d g2
    refine own_go (fun t k => XS.i2dS X0.here hx rfl (hb hby at_345) rfl hd433 k) ?_
    show own_G p.tables e below s _ _ _ (s₁.setTop (mkF m 346 #[.val (.int p1), .val (.int p2), .val (.int p3), .val (.int p4), .val (.int p5), .val (.int p6), .val (.int g1), .val (.int g2), .val (.int (3 : Int32)), .val (.int k0), .val (.int k1), .val (.int k2), .val (.double d374), .second, .val (.double d376), .second, .val (.double d378), .second, .val (.double d379), .second, .val (.double d380), .second, .val (.double d381), .second, .val (.double d382), .second, .val (.long (eu.toInt64)), .second, .val (.double d432), .second, .unset, .unset, .unset] [(.double d433), (.double d380)]))
    refine own_go (fun t k => X0.ldc2DoubleC hx hown (mvT hZ (hw _ (List.mem_of_getElem? (i := 25) rfl))) (g := (mkF m 346 #[.val (.int p1), .val (.int p2), .val (.int p3), .val (.int p4), .val (.int p5), .val (.int p6), .val (.int g1), .val (.int g2), .val (.int (3 : Int32)), .val (.int k0), .val (.int k1), .val (.int k2), .val (.double d374), .second, .val (.double d376), .second, .val (.double d378), .second, .val (.double d379), .second, .val (.double d380), .second, .val (.double d381), .second, .val (.double d382), .second, .val (.long (eu.toInt64)), .second, .val (.double d432), .second, .unset, .unset, .unset] [(.double d433), (.double d380)])) rfl (hb hby at_346) _ k) ?_
    show own_G p.tables e below s _ _ _ (s₁.setTop (mkF m 349 #[.val (.int p1), .val (.int p2), .val (.int p3), .val (.int p4), .val (.int p5), .val (.int p6), .val (.int g1), .val (.int g2), .val (.int (3 : Int32)), .val (.int k0), .val (.int k1), .val (.int k2), .val (.double d374), .second, .val (.double d376), .second, .val (.double d378), .second, .val (.double d379), .second, .val (.double d380), .second, .val (.double d381), .second, .val (.double d382), .second, .val (.long (eu.toInt64)), .second, .val (.double d432), .second, .unset, .unset, .unset] [(.double (4611686018427387904 : UInt64)), (.double d433), (.double d380)]))
    obtain ⟨d434, hd434⟩ : ∃ z, Jvm.FP.ddiv d433 (4611686018427387904 : UInt64) = z := ⟨_, rfl⟩
    have D434 : own_E (4 * g2.toInt) d434 := by rw [← hd434]; exact own_div D433 own_2 (by decide) (by omega) (by omega)
    refine own_go (fun t k => XS.ddivS X0.here hx rfl (hb hby at_349) rfl (by rw [hd434]; exact own_num D434) hd434 k) ?_
    show own_G p.tables e below s _ _ _ (s₁.setTop (mkF m 350 #[.val (.int p1), .val (.int p2), .val (.int p3), .val (.int p4), .val (.int p5), .val (.int p6), .val (.int g1), .val (.int g2), .val (.int (3 : Int32)), .val (.int k0), .val (.int k1), .val (.int k2), .val (.double d374), .second, .val (.double d376), .second, .val (.double d378), .second, .val (.double d379), .second, .val (.double d380), .second, .val (.double d381), .second, .val (.double d382), .second, .val (.long (eu.toInt64)), .second, .val (.double d432), .second, .unset, .unset, .unset] [(.double d434), (.double d380)]))
    obtain ⟨d435, hd435⟩ : ∃ z, Jvm.FP.dadd d380 d434 = z := ⟨_, rfl⟩
    have D435 : own_E (8 * (p1.toInt + g1.toInt) + 4 * g2.toInt) d435 := by rw [← hd435]; exact own_add D380 D434 (by omega)
    refine own_go (fun t k => XS.daddS X0.here hx rfl (hb hby at_350) rfl (by rw [hd435]; exact own_num D435) hd435 k) ?_
    show own_G p.tables e below s _ _ _ (s₁.setTop (mkF m 351 #[.val (.int p1), .val (.int p2), .val (.int p3), .val (.int p4), .val (.int p5), .val (.int p6), .val (.int g1), .val (.int g2), .val (.int (3 : Int32)), .val (.int k0), .val (.int k1), .val (.int k2), .val (.double d374), .second, .val (.double d376), .second, .val (.double d378), .second, .val (.double d379), .second, .val (.double d380), .second, .val (.double d381), .second, .val (.double d382), .second, .val (.long (eu.toInt64)), .second, .val (.double d432), .second, .unset, .unset, .unset] [(.double d435)]))
    refine own_go (fun t k => XS.dstore X0.here hx rfl (hb hby at_351) rfl (l' := #[.val (.int p1), .val (.int p2), .val (.int p3), .val (.int p4), .val (.int p5), .val (.int p6), .val (.int g1), .val (.int g2), .val (.int (3 : Int32)), .val (.int k0), .val (.int k1), .val (.int k2), .val (.double d374), .second, .val (.double d376), .second, .val (.double d378), .second, .val (.double d379), .second, .val (.double d380), .second, .val (.double d381), .second, .val (.double d382), .second, .val (.long (eu.toInt64)), .second, .val (.double d432), .second, .val (.double d435), .second, .unset]) rfl k) ?_
    show own_G p.tables e below s _ _ _ (s₁.setTop (mkF m 353 #[.val (.int p1), .val (.int p2), .val (.int p3), .val (.int p4), .val (.int p5), .val (.int p6), .val (.int g1), .val (.int g2), .val (.int (3 : Int32)), .val (.int k0), .val (.int k1), .val (.int k2), .val (.double d374), .second, .val (.double d376), .second, .val (.double d378), .second, .val (.double d379), .second, .val (.double d380), .second, .val (.double d381), .second, .val (.double d382), .second, .val (.long (eu.toInt64)), .second, .val (.double d432), .second, .val (.double d435), .second, .unset] []))
    refine own_go (fun t k => XS.bipush X0.here hx rfl (hb hby at_353) k) ?_
    show own_G p.tables e below s _ _ _ (s₁.setTop (mkF m 355 #[.val (.int p1), .val (.int p2), .val (.int p3), .val (.int p4), .val (.int p5), .val (.int p6), .val (.int g1), .val (.int g2), .val (.int (3 : Int32)), .val (.int k0), .val (.int k1), .val (.int k2), .val (.double d374), .second, .val (.double d376), .second, .val (.double d378), .second, .val (.double d379), .second, .val (.double d380), .second, .val (.double d381), .second, .val (.double d382), .second, .val (.long (eu.toInt64)), .second, .val (.double d432), .second, .val (.double d435), .second, .unset] [(.int (6 : Int32))]))
    obtain ⟨T436, h436, k436, X436, e436, E436, A436, st436⟩ := newP X0 hx hZ (hw _ (List.mem_of_getElem? (i := 3) rfl)) e0 (g := (mkF m 355 #[.val (.int p1), .val (.int p2), .val (.int p3), .val (.int p4), .val (.int p5), .val (.int p6), .val (.int g1), .val (.int g2), .val (.int (3 : Int32)), .val (.int k0), .val (.int k1), .val (.int k2), .val (.double d374), .second, .val (.double d376), .second, .val (.double d378), .second, .val (.double d379), .second, .val (.double d380), .second, .val (.double d381), .second, .val (.double d382), .second, .val (.long (eu.toInt64)), .second, .val (.double d432), .second, .val (.double d435), .second, .unset] [(.int (6 : Int32))])) rfl (hb hby at_355) rfl (by decide) (cap := 6) (by decide) (by decide) (by decide) (by decide)
    obtain ⟨b436, g436⟩ : ∃ z, z = h0.size := ⟨_, rfl⟩
    rw [← g436] at A436 st436
    refine own_go st436 ?_
    have g437 := Nat.le_trans Z0 (Nat.le_of_eq g436.symm)
    have z438 := Nat.le_trans Z0 E436.1
    have v439 : Arv Z h436 b436 k436 .double (6 : Int32) [(.double 0), (.double 0), (.double 0), (.double 0), (.double 0), (.double 0)] (.double 0) := (Arv.new A436 (by decide)).pad (pad_rep [] (.double 0) 6)
    show own_G p.tables e below s _ _ _ (T436.setTop (mkF m 357 #[.val (.int p1), .val (.int p2), .val (.int p3), .val (.int p4), .val (.int p5), .val (.int p6), .val (.int g1), .val (.int g2), .val (.int (3 : Int32)), .val (.int k0), .val (.int k1), .val (.int k2), .val (.double d374), .second, .val (.double d376), .second, .val (.double d378), .second, .val (.double d379), .second, .val (.double d380), .second, .val (.double d381), .second, .val (.double d382), .second, .val (.long (eu.toInt64)), .second, .val (.double d432), .second, .val (.double d435), .second, .unset] [(.ref b436)]))
    refine own_go (fun t k => XS.dup X436.here hx rfl (hb hby at_357) rfl rfl k) ?_
    show own_G p.tables e below s _ _ _ (T436.setTop (mkF m 358 #[.val (.int p1), .val (.int p2), .val (.int p3), .val (.int p4), .val (.int p5), .val (.int p6), .val (.int g1), .val (.int g2), .val (.int (3 : Int32)), .val (.int k0), .val (.int k1), .val (.int k2), .val (.double d374), .second, .val (.double d376), .second, .val (.double d378), .second, .val (.double d379), .second, .val (.double d380), .second, .val (.double d381), .second, .val (.double d382), .second, .val (.long (eu.toInt64)), .second, .val (.double d432), .second, .val (.double d435), .second, .unset] [(.ref b436), (.ref b436)]))
    refine own_go (fun t k => XS.iconst X436.here hx rfl (hb hby at_358) k) ?_
    show own_G p.tables e below s _ _ _ (T436.setTop (mkF m 359 #[.val (.int p1), .val (.int p2), .val (.int p3), .val (.int p4), .val (.int p5), .val (.int p6), .val (.int g1), .val (.int g2), .val (.int (3 : Int32)), .val (.int k0), .val (.int k1), .val (.int k2), .val (.double d374), .second, .val (.double d376), .second, .val (.double d378), .second, .val (.double d379), .second, .val (.double d380), .second, .val (.double d381), .second, .val (.double d382), .second, .val (.long (eu.toInt64)), .second, .val (.double d432), .second, .val (.double d435), .second, .unset] [(.int (0 : Int32)), (.ref b436), (.ref b436)]))
    refine own_go (fun t k => XS.dload X436.here hx rfl (hb hby at_359) rfl k) ?_
    show own_G p.tables e below s _ _ _ (T436.setTop (mkF m 361 #[.val (.int p1), .val (.int p2), .val (.int p3), .val (.int p4), .val (.int p5), .val (.int p6), .val (.int g1), .val (.int g2), .val (.int (3 : Int32)), .val (.int k0), .val (.int k1), .val (.int k2), .val (.double d374), .second, .val (.double d376), .second, .val (.double d378), .second, .val (.double d379), .second, .val (.double d380), .second, .val (.double d381), .second, .val (.double d382), .second, .val (.long (eu.toInt64)), .second, .val (.double d432), .second, .val (.double d435), .second, .unset] [(.double d379), (.int (0 : Int32)), (.ref b436), (.ref b436)]))
    obtain ⟨cl440, Ar440, q440, S440, NN440, HH440, GG440⟩ := v439
    have hin440 : ¬ ((0 : Int32) < 0 ∨ cl440.slots.size ≤ ((0 : Int32)).toNatClampNeg) := inb_of S440 ⟨by decide, by decide⟩
    obtain ⟨T440, h440, X440, e440, W440, st440⟩ := stD X436 hx hZ e436 Ar440 (j := (0 : Int32)) hin440 (g := (mkF m 361 #[.val (.int p1), .val (.int p2), .val (.int p3), .val (.int p4), .val (.int p5), .val (.int p6), .val (.int g1), .val (.int g2), .val (.int (3 : Int32)), .val (.int k0), .val (.int k1), .val (.int k2), .val (.double d374), .second, .val (.double d376), .second, .val (.double d378), .second, .val (.double d379), .second, .val (.double d380), .second, .val (.double d381), .second, .val (.double d382), .second, .val (.long (eu.toInt64)), .second, .val (.double d432), .second, .val (.double d435), .second, .unset] [(.double d379), (.int (0 : Int32)), (.ref b436), (.ref b436)])) rfl rfl (hb hby at_361)
    refine own_go st440 ?_
    have v441 : Arv Z h440 b436 k436 .double (6 : Int32) [(.double d379), (.double 0), (.double 0), (.double 0), (.double 0), (.double 0)] (.double 0) := Arv.set Ar440 q440 S440 NN440 HH440 GG440 rfl W440 0 rfl (Nat.le_of_ble_eq_true rfl)
    have z442 := Nat.le_trans z438 (Keep.of_wr W440).1
    have N440 := Fr.snoc X440 N0 g437
    show own_G p.tables e below s _ _ _ (T440.setTop (mkF m 362 #[.val (.int p1), .val (.int p2), .val (.int p3), .val (.int p4), .val (.int p5), .val (.int p6), .val (.int g1), .val (.int g2), .val (.int (3 : Int32)), .val (.int k0), .val (.int k1), .val (.int k2), .val (.double d374), .second, .val (.double d376), .second, .val (.double d378), .second, .val (.double d379), .second, .val (.double d380), .second, .val (.double d381), .second, .val (.double d382), .second, .val (.long (eu.toInt64)), .second, .val (.double d432), .second, .val (.double d435), .second, .unset] [(.ref b436)]))
    refine own_go (fun t k => XS.dup X440.here hx rfl (hb hby at_362) rfl rfl k) ?_
    show own_G p.tables e below s _ _ _ (T440.setTop (mkF m 363 #[.val (.int p1), .val (.int p2), .val (.int p3), .val (.int p4), .val (.int p5), .val (.int p6), .val (.int g1), .val (.int g2), .val (.int (3 : Int32)), .val (.int k0), .val (.int k1), .val (.int k2), .val (.double d374), .second, .val (.double d376), .second, .val (.double d378), .second, .val (.double d379), .second, .val (.double d380), .second, .val (.double d381), .second, .val (.double d382), .second, .val (.long (eu.toInt64)), .second, .val (.double d432), .second, .val (.double d435), .second, .unset] [(.ref b436), (.ref b436)]))
    refine own_go (fun t k => XS.iconst X440.here hx rfl (hb hby at_363) k) ?_
    show own_G p.tables e below s _ _ _ (T440.setTop (mkF m 364 #[.val (.int p1), .val (.int p2), .val (.int p3), .val (.int p4), .val (.int p5), .val (.int p6), .val (.int g1), .val (.int g2), .val (.int (3 : Int32)), .val (.int k0), .val (.int k1), .val (.int k2), .val (.double d374), .second, .val (.double d376), .second, .val (.double d378), .second, .val (.double d379), .second, .val (.double d380), .second, .val (.double d381), .second, .val (.double d382), .second, .val (.long (eu.toInt64)), .second, .val (.double d432), .second, .val (.double d435), .second, .unset] [(.int (1 : Int32)), (.ref b436), (.ref b436)]))
    refine own_go (fun t k => XS.dload X440.here hx rfl (hb hby at_364) rfl k) ?_
    show own_G p.tables e below s _ _ _ (T440.setTop (mkF m 366 #[.val (.int p1), .val (.int p2), .val (.int p3), .val (.int p4), .val (.int p5), .val (.int p6), .val (.int g1), .val (.int g2), .val (.int (3 : Int32)), .val (.int k0), .val (.int k1), .val (.int k2), .val (.double d374), .second, .val (.double d376), .second, .val (.double d378), .second, .val (.double d379), .second, .val (.double d380), .second, .val (.double d381), .second, .val (.double d382), .second, .val (.long (eu.toInt64)), .second, .val (.double d432), .second, .val (.double d435), .second, .unset] [(.double d374), (.int (1 : Int32)), (.ref b436), (.ref b436)]))
    obtain ⟨cl443, Ar443, q443, S443, NN443, HH443, GG443⟩ := v441
    have hin443 : ¬ ((1 : Int32) < 0 ∨ cl443.slots.size ≤ ((1 : Int32)).toNatClampNeg) := inb_of S443 ⟨by decide, by decide⟩
    obtain ⟨T443, h443, X443, e443, W443, st443⟩ := stD X440 hx hZ e440 Ar443 (j := (1 : Int32)) hin443 (g := (mkF m 366 #[.val (.int p1), .val (.int p2), .val (.int p3), .val (.int p4), .val (.int p5), .val (.int p6), .val (.int g1), .val (.int g2), .val (.int (3 : Int32)), .val (.int k0), .val (.int k1), .val (.int k2), .val (.double d374), .second, .val (.double d376), .second, .val (.double d378), .second, .val (.double d379), .second, .val (.double d380), .second, .val (.double d381), .second, .val (.double d382), .second, .val (.long (eu.toInt64)), .second, .val (.double d432), .second, .val (.double d435), .second, .unset] [(.double d374), (.int (1 : Int32)), (.ref b436), (.ref b436)])) rfl rfl (hb hby at_366)
    refine own_go st443 ?_
    have v444 : Arv Z h443 b436 k436 .double (6 : Int32) [(.double d379), (.double d374), (.double 0), (.double 0), (.double 0), (.double 0)] (.double 0) := Arv.set Ar443 q443 S443 NN443 HH443 GG443 rfl W443 1 rfl (Nat.le_of_ble_eq_true rfl)
    have z445 := Nat.le_trans z442 (Keep.of_wr W443).1
    have N443 := Fr.snoc X443 N440 g437
    show own_G p.tables e below s _ _ _ (T443.setTop (mkF m 367 #[.val (.int p1), .val (.int p2), .val (.int p3), .val (.int p4), .val (.int p5), .val (.int p6), .val (.int g1), .val (.int g2), .val (.int (3 : Int32)), .val (.int k0), .val (.int k1), .val (.int k2), .val (.double d374), .second, .val (.double d376), .second, .val (.double d378), .second, .val (.double d379), .second, .val (.double d380), .second, .val (.double d381), .second, .val (.double d382), .second, .val (.long (eu.toInt64)), .second, .val (.double d432), .second, .val (.double d435), .second, .unset] [(.ref b436)]))
    refine own_go (fun t k => XS.dup X443.here hx rfl (hb hby at_367) rfl rfl k) ?_
    show own_G p.tables e below s _ _ _ (T443.setTop (mkF m 368 #[.val (.int p1), .val (.int p2), .val (.int p3), .val (.int p4), .val (.int p5), .val (.int p6), .val (.int g1), .val (.int g2), .val (.int (3 : Int32)), .val (.int k0), .val (.int k1), .val (.int k2), .val (.double d374), .second, .val (.double d376), .second, .val (.double d378), .second, .val (.double d379), .second, .val (.double d380), .second, .val (.double d381), .second, .val (.double d382), .second, .val (.long (eu.toInt64)), .second, .val (.double d432), .second, .val (.double d435), .second, .unset] [(.ref b436), (.ref b436)]))
    refine own_go (fun t k => XS.iconst X443.here hx rfl (hb hby at_368) k) ?_
    show own_G p.tables e below s _ _ _ (T443.setTop (mkF m 369 #[.val (.int p1), .val (.int p2), .val (.int p3), .val (.int p4), .val (.int p5), .val (.int p6), .val (.int g1), .val (.int g2), .val (.int (3 : Int32)), .val (.int k0), .val (.int k1), .val (.int k2), .val (.double d374), .second, .val (.double d376), .second, .val (.double d378), .second, .val (.double d379), .second, .val (.double d380), .second, .val (.double d381), .second, .val (.double d382), .second, .val (.long (eu.toInt64)), .second, .val (.double d432), .second, .val (.double d435), .second, .unset] [(.int (2 : Int32)), (.ref b436), (.ref b436)]))
    refine own_go (fun t k => XS.dload X443.here hx rfl (hb hby at_369) rfl k) ?_
    show own_G p.tables e below s _ _ _ (T443.setTop (mkF m 371 #[.val (.int p1), .val (.int p2), .val (.int p3), .val (.int p4), .val (.int p5), .val (.int p6), .val (.int g1), .val (.int g2), .val (.int (3 : Int32)), .val (.int k0), .val (.int k1), .val (.int k2), .val (.double d374), .second, .val (.double d376), .second, .val (.double d378), .second, .val (.double d379), .second, .val (.double d380), .second, .val (.double d381), .second, .val (.double d382), .second, .val (.long (eu.toInt64)), .second, .val (.double d432), .second, .val (.double d435), .second, .unset] [(.double d380), (.int (2 : Int32)), (.ref b436), (.ref b436)]))
    obtain ⟨cl446, Ar446, q446, S446, NN446, HH446, GG446⟩ := v444
    have hin446 : ¬ ((2 : Int32) < 0 ∨ cl446.slots.size ≤ ((2 : Int32)).toNatClampNeg) := inb_of S446 ⟨by decide, by decide⟩
    obtain ⟨T446, h446, X446, e446, W446, st446⟩ := stD X443 hx hZ e443 Ar446 (j := (2 : Int32)) hin446 (g := (mkF m 371 #[.val (.int p1), .val (.int p2), .val (.int p3), .val (.int p4), .val (.int p5), .val (.int p6), .val (.int g1), .val (.int g2), .val (.int (3 : Int32)), .val (.int k0), .val (.int k1), .val (.int k2), .val (.double d374), .second, .val (.double d376), .second, .val (.double d378), .second, .val (.double d379), .second, .val (.double d380), .second, .val (.double d381), .second, .val (.double d382), .second, .val (.long (eu.toInt64)), .second, .val (.double d432), .second, .val (.double d435), .second, .unset] [(.double d380), (.int (2 : Int32)), (.ref b436), (.ref b436)])) rfl rfl (hb hby at_371)
    refine own_go st446 ?_
    have v447 : Arv Z h446 b436 k436 .double (6 : Int32) [(.double d379), (.double d374), (.double d380), (.double 0), (.double 0), (.double 0)] (.double 0) := Arv.set Ar446 q446 S446 NN446 HH446 GG446 rfl W446 2 rfl (Nat.le_of_ble_eq_true rfl)
    have z448 := Nat.le_trans z445 (Keep.of_wr W446).1
    have N446 := Fr.snoc X446 N443 g437
    show own_G p.tables e below s _ _ _ (T446.setTop (mkF m 372 #[.val (.int p1), .val (.int p2), .val (.int p3), .val (.int p4), .val (.int p5), .val (.int p6), .val (.int g1), .val (.int g2), .val (.int (3 : Int32)), .val (.int k0), .val (.int k1), .val (.int k2), .val (.double d374), .second, .val (.double d376), .second, .val (.double d378), .second, .val (.double d379), .second, .val (.double d380), .second, .val (.double d381), .second, .val (.double d382), .second, .val (.long (eu.toInt64)), .second, .val (.double d432), .second, .val (.double d435), .second, .unset] [(.ref b436)]))
    refine own_go (fun t k => XS.dup X446.here hx rfl (hb hby at_372) rfl rfl k) ?_
    show own_G p.tables e below s _ _ _ (T446.setTop (mkF m 373 #[.val (.int p1), .val (.int p2), .val (.int p3), .val (.int p4), .val (.int p5), .val (.int p6), .val (.int g1), .val (.int g2), .val (.int (3 : Int32)), .val (.int k0), .val (.int k1), .val (.int k2), .val (.double d374), .second, .val (.double d376), .second, .val (.double d378), .second, .val (.double d379), .second, .val (.double d380), .second, .val (.double d381), .second, .val (.double d382), .second, .val (.long (eu.toInt64)), .second, .val (.double d432), .second, .val (.double d435), .second, .unset] [(.ref b436), (.ref b436)]))
    refine own_go (fun t k => XS.iconst X446.here hx rfl (hb hby at_373) k) ?_
    show own_G p.tables e below s _ _ _ (T446.setTop (mkF m 374 #[.val (.int p1), .val (.int p2), .val (.int p3), .val (.int p4), .val (.int p5), .val (.int p6), .val (.int g1), .val (.int g2), .val (.int (3 : Int32)), .val (.int k0), .val (.int k1), .val (.int k2), .val (.double d374), .second, .val (.double d376), .second, .val (.double d378), .second, .val (.double d379), .second, .val (.double d380), .second, .val (.double d381), .second, .val (.double d382), .second, .val (.long (eu.toInt64)), .second, .val (.double d432), .second, .val (.double d435), .second, .unset] [(.int (3 : Int32)), (.ref b436), (.ref b436)]))
    refine own_go (fun t k => XS.dload X446.here hx rfl (hb hby at_374) rfl k) ?_
    show own_G p.tables e below s _ _ _ (T446.setTop (mkF m 376 #[.val (.int p1), .val (.int p2), .val (.int p3), .val (.int p4), .val (.int p5), .val (.int p6), .val (.int g1), .val (.int g2), .val (.int (3 : Int32)), .val (.int k0), .val (.int k1), .val (.int k2), .val (.double d374), .second, .val (.double d376), .second, .val (.double d378), .second, .val (.double d379), .second, .val (.double d380), .second, .val (.double d381), .second, .val (.double d382), .second, .val (.long (eu.toInt64)), .second, .val (.double d432), .second, .val (.double d435), .second, .unset] [(.double d376), (.int (3 : Int32)), (.ref b436), (.ref b436)]))
    obtain ⟨cl449, Ar449, q449, S449, NN449, HH449, GG449⟩ := v447
    have hin449 : ¬ ((3 : Int32) < 0 ∨ cl449.slots.size ≤ ((3 : Int32)).toNatClampNeg) := inb_of S449 ⟨by decide, by decide⟩
    obtain ⟨T449, h449, X449, e449, W449, st449⟩ := stD X446 hx hZ e446 Ar449 (j := (3 : Int32)) hin449 (g := (mkF m 376 #[.val (.int p1), .val (.int p2), .val (.int p3), .val (.int p4), .val (.int p5), .val (.int p6), .val (.int g1), .val (.int g2), .val (.int (3 : Int32)), .val (.int k0), .val (.int k1), .val (.int k2), .val (.double d374), .second, .val (.double d376), .second, .val (.double d378), .second, .val (.double d379), .second, .val (.double d380), .second, .val (.double d381), .second, .val (.double d382), .second, .val (.long (eu.toInt64)), .second, .val (.double d432), .second, .val (.double d435), .second, .unset] [(.double d376), (.int (3 : Int32)), (.ref b436), (.ref b436)])) rfl rfl (hb hby at_376)
    refine own_go st449 ?_
    have v450 : Arv Z h449 b436 k436 .double (6 : Int32) [(.double d379), (.double d374), (.double d380), (.double d376), (.double 0), (.double 0)] (.double 0) := Arv.set Ar449 q449 S449 NN449 HH449 GG449 rfl W449 3 rfl (Nat.le_of_ble_eq_true rfl)
    have z451 := Nat.le_trans z448 (Keep.of_wr W449).1
    have N449 := Fr.snoc X449 N446 g437
    show own_G p.tables e below s _ _ _ (T449.setTop (mkF m 377 #[.val (.int p1), .val (.int p2), .val (.int p3), .val (.int p4), .val (.int p5), .val (.int p6), .val (.int g1), .val (.int g2), .val (.int (3 : Int32)), .val (.int k0), .val (.int k1), .val (.int k2), .val (.double d374), .second, .val (.double d376), .second, .val (.double d378), .second, .val (.double d379), .second, .val (.double d380), .second, .val (.double d381), .second, .val (.double d382), .second, .val (.long (eu.toInt64)), .second, .val (.double d432), .second, .val (.double d435), .second, .unset] [(.ref b436)]))
    refine own_go (fun t k => XS.dup X449.here hx rfl (hb hby at_377) rfl rfl k) ?_
    show own_G p.tables e below s _ _ _ (T449.setTop (mkF m 378 #[.val (.int p1), .val (.int p2), .val (.int p3), .val (.int p4), .val (.int p5), .val (.int p6), .val (.int g1), .val (.int g2), .val (.int (3 : Int32)), .val (.int k0), .val (.int k1), .val (.int k2), .val (.double d374), .second, .val (.double d376), .second, .val (.double d378), .second, .val (.double d379), .second, .val (.double d380), .second, .val (.double d381), .second, .val (.double d382), .second, .val (.long (eu.toInt64)), .second, .val (.double d432), .second, .val (.double d435), .second, .unset] [(.ref b436), (.ref b436)]))
    refine own_go (fun t k => XS.iconst X449.here hx rfl (hb hby at_378) k) ?_
    show own_G p.tables e below s _ _ _ (T449.setTop (mkF m 379 #[.val (.int p1), .val (.int p2), .val (.int p3), .val (.int p4), .val (.int p5), .val (.int p6), .val (.int g1), .val (.int g2), .val (.int (3 : Int32)), .val (.int k0), .val (.int k1), .val (.int k2), .val (.double d374), .second, .val (.double d376), .second, .val (.double d378), .second, .val (.double d379), .second, .val (.double d380), .second, .val (.double d381), .second, .val (.double d382), .second, .val (.long (eu.toInt64)), .second, .val (.double d432), .second, .val (.double d435), .second, .unset] [(.int (4 : Int32)), (.ref b436), (.ref b436)]))
    refine own_go (fun t k => XS.dload X449.here hx rfl (hb hby at_379) rfl k) ?_
    show own_G p.tables e below s _ _ _ (T449.setTop (mkF m 381 #[.val (.int p1), .val (.int p2), .val (.int p3), .val (.int p4), .val (.int p5), .val (.int p6), .val (.int g1), .val (.int g2), .val (.int (3 : Int32)), .val (.int k0), .val (.int k1), .val (.int k2), .val (.double d374), .second, .val (.double d376), .second, .val (.double d378), .second, .val (.double d379), .second, .val (.double d380), .second, .val (.double d381), .second, .val (.double d382), .second, .val (.long (eu.toInt64)), .second, .val (.double d432), .second, .val (.double d435), .second, .unset] [(.double d381), (.int (4 : Int32)), (.ref b436), (.ref b436)]))
    obtain ⟨cl452, Ar452, q452, S452, NN452, HH452, GG452⟩ := v450
    have hin452 : ¬ ((4 : Int32) < 0 ∨ cl452.slots.size ≤ ((4 : Int32)).toNatClampNeg) := inb_of S452 ⟨by decide, by decide⟩
    obtain ⟨T452, h452, X452, e452, W452, st452⟩ := stD X449 hx hZ e449 Ar452 (j := (4 : Int32)) hin452 (g := (mkF m 381 #[.val (.int p1), .val (.int p2), .val (.int p3), .val (.int p4), .val (.int p5), .val (.int p6), .val (.int g1), .val (.int g2), .val (.int (3 : Int32)), .val (.int k0), .val (.int k1), .val (.int k2), .val (.double d374), .second, .val (.double d376), .second, .val (.double d378), .second, .val (.double d379), .second, .val (.double d380), .second, .val (.double d381), .second, .val (.double d382), .second, .val (.long (eu.toInt64)), .second, .val (.double d432), .second, .val (.double d435), .second, .unset] [(.double d381), (.int (4 : Int32)), (.ref b436), (.ref b436)])) rfl rfl (hb hby at_381)
    refine own_go st452 ?_
    have v453 : Arv Z h452 b436 k436 .double (6 : Int32) [(.double d379), (.double d374), (.double d380), (.double d376), (.double d381), (.double 0)] (.double 0) := Arv.set Ar452 q452 S452 NN452 HH452 GG452 rfl W452 4 rfl (Nat.le_of_ble_eq_true rfl)
    have z454 := Nat.le_trans z451 (Keep.of_wr W452).1
    have N452 := Fr.snoc X452 N449 g437
    show own_G p.tables e below s _ _ _ (T452.setTop (mkF m 382 #[.val (.int p1), .val (.int p2), .val (.int p3), .val (.int p4), .val (.int p5), .val (.int p6), .val (.int g1), .val (.int g2), .val (.int (3 : Int32)), .val (.int k0), .val (.int k1), .val (.int k2), .val (.double d374), .second, .val (.double d376), .second, .val (.double d378), .second, .val (.double d379), .second, .val (.double d380), .second, .val (.double d381), .second, .val (.double d382), .second, .val (.long (eu.toInt64)), .second, .val (.double d432), .second, .val (.double d435), .second, .unset] [(.ref b436)]))
    refine own_go (fun t k => XS.dup X452.here hx rfl (hb hby at_382) rfl rfl k) ?_
    show own_G p.tables e below s _ _ _ (T452.setTop (mkF m 383 #[.val (.int p1), .val (.int p2), .val (.int p3), .val (.int p4), .val (.int p5), .val (.int p6), .val (.int g1), .val (.int g2), .val (.int (3 : Int32)), .val (.int k0), .val (.int k1), .val (.int k2), .val (.double d374), .second, .val (.double d376), .second, .val (.double d378), .second, .val (.double d379), .second, .val (.double d380), .second, .val (.double d381), .second, .val (.double d382), .second, .val (.long (eu.toInt64)), .second, .val (.double d432), .second, .val (.double d435), .second, .unset] [(.ref b436), (.ref b436)]))
    refine own_go (fun t k => XS.iconst X452.here hx rfl (hb hby at_383) k) ?_
    show own_G p.tables e below s _ _ _ (T452.setTop (mkF m 384 #[.val (.int p1), .val (.int p2), .val (.int p3), .val (.int p4), .val (.int p5), .val (.int p6), .val (.int g1), .val (.int g2), .val (.int (3 : Int32)), .val (.int k0), .val (.int k1), .val (.int k2), .val (.double d374), .second, .val (.double d376), .second, .val (.double d378), .second, .val (.double d379), .second, .val (.double d380), .second, .val (.double d381), .second, .val (.double d382), .second, .val (.long (eu.toInt64)), .second, .val (.double d432), .second, .val (.double d435), .second, .unset] [(.int (5 : Int32)), (.ref b436), (.ref b436)]))
    refine own_go (fun t k => XS.dload X452.here hx rfl (hb hby at_384) rfl k) ?_
    show own_G p.tables e below s _ _ _ (T452.setTop (mkF m 386 #[.val (.int p1), .val (.int p2), .val (.int p3), .val (.int p4), .val (.int p5), .val (.int p6), .val (.int g1), .val (.int g2), .val (.int (3 : Int32)), .val (.int k0), .val (.int k1), .val (.int k2), .val (.double d374), .second, .val (.double d376), .second, .val (.double d378), .second, .val (.double d379), .second, .val (.double d380), .second, .val (.double d381), .second, .val (.double d382), .second, .val (.long (eu.toInt64)), .second, .val (.double d432), .second, .val (.double d435), .second, .unset] [(.double d378), (.int (5 : Int32)), (.ref b436), (.ref b436)]))
    obtain ⟨cl455, Ar455, q455, S455, NN455, HH455, GG455⟩ := v453
    have hin455 : ¬ ((5 : Int32) < 0 ∨ cl455.slots.size ≤ ((5 : Int32)).toNatClampNeg) := inb_of S455 ⟨by decide, by decide⟩
    obtain ⟨T455, h455, X455, e455, W455, st455⟩ := stD X452 hx hZ e452 Ar455 (j := (5 : Int32)) hin455 (g := (mkF m 386 #[.val (.int p1), .val (.int p2), .val (.int p3), .val (.int p4), .val (.int p5), .val (.int p6), .val (.int g1), .val (.int g2), .val (.int (3 : Int32)), .val (.int k0), .val (.int k1), .val (.int k2), .val (.double d374), .second, .val (.double d376), .second, .val (.double d378), .second, .val (.double d379), .second, .val (.double d380), .second, .val (.double d381), .second, .val (.double d382), .second, .val (.long (eu.toInt64)), .second, .val (.double d432), .second, .val (.double d435), .second, .unset] [(.double d378), (.int (5 : Int32)), (.ref b436), (.ref b436)])) rfl rfl (hb hby at_386)
    refine own_go st455 ?_
    have v456 : Arv Z h455 b436 k436 .double (6 : Int32) [(.double d379), (.double d374), (.double d380), (.double d376), (.double d381), (.double d378)] (.double 0) := Arv.set Ar455 q455 S455 NN455 HH455 GG455 rfl W455 5 rfl (Nat.le_of_ble_eq_true rfl)
    have z457 := Nat.le_trans z454 (Keep.of_wr W455).1
    have N455 := Fr.snoc X455 N452 g437
    show own_G p.tables e below s _ _ _ (T455.setTop (mkF m 387 #[.val (.int p1), .val (.int p2), .val (.int p3), .val (.int p4), .val (.int p5), .val (.int p6), .val (.int g1), .val (.int g2), .val (.int (3 : Int32)), .val (.int k0), .val (.int k1), .val (.int k2), .val (.double d374), .second, .val (.double d376), .second, .val (.double d378), .second, .val (.double d379), .second, .val (.double d380), .second, .val (.double d381), .second, .val (.double d382), .second, .val (.long (eu.toInt64)), .second, .val (.double d432), .second, .val (.double d435), .second, .unset] [(.ref b436)]))
    obtain ⟨_, _, ⟨T458, L458, k458, n458⟩, -, X458, ⟨Lc458, hQ458, l458, y458, z458⟩, st458⟩ := Jvm.LawKit.callS X455 hx (y := (⟨"com/example/options_into_arguments/optionsintoarguments/quality/Curve", "through", "([D)Lcom/example/options_into_arguments/optionsintoarguments/quality/Curve;"⟩ : MethodName)) hown (mvT hZ (hw _ (List.mem_of_getElem? (i := 4) rfl))) (mvT hZ (hw _ (List.mem_of_getElem? (i := 5) rfl))) (mvT hZ (hw _ (List.mem_of_getElem? (i := 6) rfl))) (mvT hZ (hw _ (List.mem_of_getElem? (i := 7) rfl))) (by decide) (backOf (W := 0) (rmt3 l Z a0 hw [] b436 k436 d379 d374 d380 d376 d381 d378 (8 * (p1).toInt) (2 * k0.toInt) (8 * (p1.toInt + g1.toInt)) (2 * k1.toInt) (8 * (p1.toInt + g1.toInt + g2.toInt)) (2 * k2.toInt) h455 n0 z457 v456 D379 D374 D380 D376 D381 D378 (by omega) (by omega) (by omega) (by omega) (by omega)) hZ (hw _ (List.mem_of_getElem? (i := 7) rfl)) (hw _ (List.mem_of_getElem? (i := 6) rfl)) (by decide) (by decide)) (g := (mkF m 387 #[.val (.int p1), .val (.int p2), .val (.int p3), .val (.int p4), .val (.int p5), .val (.int p6), .val (.int g1), .val (.int g2), .val (.int (3 : Int32)), .val (.int k0), .val (.int k1), .val (.int k2), .val (.double d374), .second, .val (.double d376), .second, .val (.double d378), .second, .val (.double d379), .second, .val (.double d380), .second, .val (.double d381), .second, .val (.double d382), .second, .val (.long (eu.toInt64)), .second, .val (.double d432), .second, .val (.double d435), .second, .unset] [(.ref b436)])) rfl (by rw [hml]; rfl) (argsL := [(.ref b436)]) (rest := []) (lenOf pd___D_Lcom_example_options_into_arguments_optionsintoarguments_quality_Curve_ rfl) rfl (by show 2 * 0 + _ ≤ _; exact Nat.le_of_eq rfl) (hb hby at_387) (fun _ _ => ⟨rfl, e455, (by decide : 1 + 3 ≤ _), (by decide : 6 + 8 ≤ _)⟩)
    dsimp only [Pt.U, Pt.locs, Pt.cells, Pt.slots] at X458 l458 y458 z458 st458 hQ458
    subst l458 y458 z458
    obtain ⟨⟨b458, xa458, ya458, kx458, ky458, rfl, Eb458, Fx458, Fy458, Vx458, Vy458⟩, N458q, K458⟩ := hQ458
    have N458 := Fr.app N455 N458q
    refine own_go st458 ?_
    have f459 := v456.keep K458 (fun q => nomatch q)
    have z460 := Nat.le_trans z457 K458.1
    show own_G p.tables e below s _ _ _ (T458.setTop (mkF m 390 #[.val (.int p1), .val (.int p2), .val (.int p3), .val (.int p4), .val (.int p5), .val (.int p6), .val (.int g1), .val (.int g2), .val (.int (3 : Int32)), .val (.int k0), .val (.int k1), .val (.int k2), .val (.double d374), .second, .val (.double d376), .second, .val (.double d378), .second, .val (.double d379), .second, .val (.double d380), .second, .val (.double d381), .second, .val (.double d382), .second, .val (.long (eu.toInt64)), .second, .val (.double d432), .second, .val (.double d435), .second, .unset] [(.ref b458)]))
    refine own_go (fun t k => XS.astore X458.here hx rfl (hb hby at_390) rfl rfl (l' := #[.val (.int p1), .val (.int p2), .val (.int p3), .val (.int p4), .val (.int p5), .val (.int p6), .val (.int g1), .val (.int g2), .val (.int (3 : Int32)), .val (.int k0), .val (.int k1), .val (.int k2), .val (.double d374), .second, .val (.double d376), .second, .val (.double d378), .second, .val (.double d379), .second, .val (.double d380), .second, .val (.double d381), .second, .val (.double d382), .second, .val (.long (eu.toInt64)), .second, .val (.double d432), .second, .val (.double d435), .second, .val (.ref b458)]) rfl k) ?_
    show own_G p.tables e below s _ _ _ (T458.setTop (mkF m 392 #[.val (.int p1), .val (.int p2), .val (.int p3), .val (.int p4), .val (.int p5), .val (.int p6), .val (.int g1), .val (.int g2), .val (.int (3 : Int32)), .val (.int k0), .val (.int k1), .val (.int k2), .val (.double d374), .second, .val (.double d376), .second, .val (.double d378), .second, .val (.double d379), .second, .val (.double d380), .second, .val (.double d381), .second, .val (.double d382), .second, .val (.long (eu.toInt64)), .second, .val (.double d432), .second, .val (.double d435), .second, .val (.ref b458)] []))
    refine own_go (fun t k => XS.aload X458.here hx rfl (hb hby at_392) rfl rfl k) ?_
    show own_G p.tables e below s _ _ _ (T458.setTop (mkF m 394 #[.val (.int p1), .val (.int p2), .val (.int p3), .val (.int p4), .val (.int p5), .val (.int p6), .val (.int g1), .val (.int g2), .val (.int (3 : Int32)), .val (.int k0), .val (.int k1), .val (.int k2), .val (.double d374), .second, .val (.double d376), .second, .val (.double d378), .second, .val (.double d379), .second, .val (.double d380), .second, .val (.double d381), .second, .val (.double d382), .second, .val (.long (eu.toInt64)), .second, .val (.double d432), .second, .val (.double d435), .second, .val (.ref b458)] [(.ref b458)]))
    refine own_go (fun t k => XS.dload X458.here hx rfl (hb hby at_394) rfl k) ?_
    show own_G p.tables e below s _ _ _ (T458.setTop (mkF m 396 #[.val (.int p1), .val (.int p2), .val (.int p3), .val (.int p4), .val (.int p5), .val (.int p6), .val (.int g1), .val (.int g2), .val (.int (3 : Int32)), .val (.int k0), .val (.int k1), .val (.int k2), .val (.double d374), .second, .val (.double d376), .second, .val (.double d378), .second, .val (.double d379), .second, .val (.double d380), .second, .val (.double d381), .second, .val (.double d382), .second, .val (.long (eu.toInt64)), .second, .val (.double d432), .second, .val (.double d435), .second, .val (.ref b458)] [(.double d382), (.ref b458)]))
    obtain ⟨cq461, kq461, q461a, q461b, q461c⟩ := isOf hZ rfl Eb458
    obtain ⟨_, _, ⟨T461, L461, k461, n461⟩, -, X461, ⟨Lc461, hQ461, l461, y461, z461⟩, st461⟩ := X458.virtualBack hx (y := (⟨"com/example/options_into_arguments/optionsintoarguments/quality/Curve", "at", "(D)D"⟩ : MethodName)) (z := (⟨"com/example/options_into_arguments/optionsintoarguments/quality/Curve", "at", "(D)D"⟩ : MethodName)) hown (mvT hZ (hw _ (List.mem_of_getElem? (i := 20) rfl))) (mvT hZ (hw _ (List.mem_of_getElem? (i := 21) rfl))) (notFace_of_selects (args := #[]) (mvT hZ (hw _ (List.mem_of_getElem? (i := 23) rfl)))) (mvT hZ (hw _ (List.mem_of_getElem? (i := 23) rfl))) (mvT hZ (hw _ (List.mem_of_getElem? (i := 22) rfl))) (by decide) (backOf (W := 0) (rmA3 l Z a0 hw [] b458 xa458 ya458 kx458 ky458 d382 (8 * (p1.toInt - eb.toInt)) d379 d374 d380 d376 d381 d378 (8 * (p1).toInt) (2 * k0.toInt) (8 * (p1.toInt + g1.toInt)) (2 * k1.toInt) (8 * (p1.toInt + g1.toInt + g2.toInt)) (2 * k2.toInt) T458.heap n0 z460 D382 D379 D374 D380 D376 D381 D378 Fx458 Fy458 Vx458 Vy458 (by omega)) hZ (hw _ (List.mem_of_getElem? (i := 24) rfl)) (hw _ (List.mem_of_getElem? (i := 6) rfl)) (by decide) (by decide)) q461a q461c (g := (mkF m 396 #[.val (.int p1), .val (.int p2), .val (.int p3), .val (.int p4), .val (.int p5), .val (.int p6), .val (.int g1), .val (.int g2), .val (.int (3 : Int32)), .val (.int k0), .val (.int k1), .val (.int k2), .val (.double d374), .second, .val (.double d376), .second, .val (.double d378), .second, .val (.double d379), .second, .val (.double d380), .second, .val (.double d381), .second, .val (.double d382), .second, .val (.long (eu.toInt64)), .second, .val (.double d432), .second, .val (.double d435), .second, .val (.ref b458)] [(.double d382), (.ref b458)])) rfl (by rw [hml]; rfl) (Steps.refl _) (argsL := [(.double d382)]) (rest := []) (lenOf pd__D_D rfl) rfl (by show 2 * 0 + _ ≤ _; exact Nat.le_of_eq rfl) (hb hby at_396) (fun _ _ => ⟨rfl, rfl, (by decide : 4 + 0 ≤ _), (by decide : 14 + 0 ≤ _)⟩)
    dsimp only [Pt.U, Pt.locs, Pt.cells, Pt.slots] at X461 l461 y461 z461 st461 hQ461
    subst l461 y461 z461
    obtain ⟨⟨w461, rfl, hw461⟩, N461q, hh461⟩ := hQ461
    have N461 := Fr.app N458 N461q
    refine own_go (fun t k => st461.trans k) ?_
    show own_G p.tables e below s _ _ _ (T461.setTop (mkF m 399 #[.val (.int p1), .val (.int p2), .val (.int p3), .val (.int p4), .val (.int p5), .val (.int p6), .val (.int g1), .val (.int g2), .val (.int (3 : Int32)), .val (.int k0), .val (.int k1), .val (.int k2), .val (.double d374), .second, .val (.double d376), .second, .val (.double d378), .second, .val (.double d379), .second, .val (.double d380), .second, .val (.double d381), .second, .val (.double d382), .second, .val (.long (eu.toInt64)), .second, .val (.double d432), .second, .val (.double d435), .second, .val (.ref b458)] [(.double w461)]))
    refine own_go (fun t k => XS.dload X461.here hx rfl (hb hby at_399) rfl k) ?_
    show own_G p.tables e below s _ _ _ (T461.setTop (mkF m 401 #[.val (.int p1), .val (.int p2), .val (.int p3), .val (.int p4), .val (.int p5), .val (.int p6), .val (.int g1), .val (.int g2), .val (.int (3 : Int32)), .val (.int k0), .val (.int k1), .val (.int k2), .val (.double d374), .second, .val (.double d376), .second, .val (.double d378), .second, .val (.double d379), .second, .val (.double d380), .second, .val (.double d381), .second, .val (.double d382), .second, .val (.long (eu.toInt64)), .second, .val (.double d432), .second, .val (.double d435), .second, .val (.ref b458)] [(.double d374), (.double w461)]))
    refine own_go (fun t k => XS.dcmpS X461.here hx rfl (hb hby at_401) rfl (own_cmpv hw461 D374) k) ?_
    show own_G p.tables e below s _ _ _ (T461.setTop (mkF m 402 #[.val (.int p1), .val (.int p2), .val (.int p3), .val (.int p4), .val (.int p5), .val (.int p6), .val (.int g1), .val (.int g2), .val (.int (3 : Int32)), .val (.int k0), .val (.int k1), .val (.int k2), .val (.double d374), .second, .val (.double d376), .second, .val (.double d378), .second, .val (.double d379), .second, .val (.double d380), .second, .val (.double d381), .second, .val (.double d382), .second, .val (.long (eu.toInt64)), .second, .val (.double d432), .second, .val (.double d435), .second, .val (.ref b458)] [(.int (own_c (2 * k0.toInt) (2 * k0.toInt)))]))
    refine own_go (fun t k => XS.ifNo X461.here hx rfl (hb hby at_402) rfl (Jvm.Free.XT.i0_ne_f (own_c_eq (by omega))) k) ?_
    show own_G p.tables e below s _ _ _ (T461.setTop (mkF m 405 #[.val (.int p1), .val (.int p2), .val (.int p3), .val (.int p4), .val (.int p5), .val (.int p6), .val (.int g1), .val (.int g2), .val (.int (3 : Int32)), .val (.int k0), .val (.int k1), .val (.int k2), .val (.double d374), .second, .val (.double d376), .second, .val (.double d378), .second, .val (.double d379), .second, .val (.double d380), .second, .val (.double d381), .second, .val (.double d382), .second, .val (.long (eu.toInt64)), .second, .val (.double d432), .second, .val (.double d435), .second, .val (.ref b458)] []))
    refine own_go (fun t k => XS.aload X461.here hx rfl (hb hby at_405) rfl rfl k) ?_
    show own_G p.tables e below s _ _ _ (T461.setTop (mkF m 407 #[.val (.int p1), .val (.int p2), .val (.int p3), .val (.int p4), .val (.int p5), .val (.int p6), .val (.int g1), .val (.int g2), .val (.int (3 : Int32)), .val (.int k0), .val (.int k1), .val (.int k2), .val (.double d374), .second, .val (.double d376), .second, .val (.double d378), .second, .val (.double d379), .second, .val (.double d380), .second, .val (.double d381), .second, .val (.double d382), .second, .val (.long (eu.toInt64)), .second, .val (.double d432), .second, .val (.double d435), .second, .val (.ref b458)] [(.ref b458)]))
    refine own_go (fun t k => XS.dload X461.here hx rfl (hb hby at_407) rfl k) ?_
    show own_G p.tables e below s _ _ _ (T461.setTop (mkF m 409 #[.val (.int p1), .val (.int p2), .val (.int p3), .val (.int p4), .val (.int p5), .val (.int p6), .val (.int g1), .val (.int g2), .val (.int (3 : Int32)), .val (.int k0), .val (.int k1), .val (.int k2), .val (.double d374), .second, .val (.double d376), .second, .val (.double d378), .second, .val (.double d379), .second, .val (.double d380), .second, .val (.double d381), .second, .val (.double d382), .second, .val (.long (eu.toInt64)), .second, .val (.double d432), .second, .val (.double d435), .second, .val (.ref b458)] [(.double d379), (.ref b458)]))
    obtain ⟨cq462, kq462, q462a, q462b, q462c⟩ := isOf hZ hh461 Eb458
    obtain ⟨_, _, ⟨T462, L462, k462, n462⟩, -, X462, ⟨Lc462, hQ462, l462, y462, z462⟩, st462⟩ := X461.virtualBack hx (y := (⟨"com/example/options_into_arguments/optionsintoarguments/quality/Curve", "at", "(D)D"⟩ : MethodName)) (z := (⟨"com/example/options_into_arguments/optionsintoarguments/quality/Curve", "at", "(D)D"⟩ : MethodName)) hown (mvT hZ (hw _ (List.mem_of_getElem? (i := 20) rfl))) (mvT hZ (hw _ (List.mem_of_getElem? (i := 21) rfl))) (notFace_of_selects (args := #[]) (mvT hZ (hw _ (List.mem_of_getElem? (i := 23) rfl)))) (mvT hZ (hw _ (List.mem_of_getElem? (i := 23) rfl))) (mvT hZ (hw _ (List.mem_of_getElem? (i := 22) rfl))) (by decide) (backOf (W := 0) (rmA3 l Z a0 hw [] b458 xa458 ya458 kx458 ky458 d379 (8 * (p1).toInt) d379 d374 d380 d376 d381 d378 (8 * (p1).toInt) (2 * k0.toInt) (8 * (p1.toInt + g1.toInt)) (2 * k1.toInt) (8 * (p1.toInt + g1.toInt + g2.toInt)) (2 * k2.toInt) T458.heap n0 z460 D379 D379 D374 D380 D376 D381 D378 Fx458 Fy458 Vx458 Vy458 (by omega)) hZ (hw _ (List.mem_of_getElem? (i := 24) rfl)) (hw _ (List.mem_of_getElem? (i := 6) rfl)) (by decide) (by decide)) q462a q462c (g := (mkF m 409 #[.val (.int p1), .val (.int p2), .val (.int p3), .val (.int p4), .val (.int p5), .val (.int p6), .val (.int g1), .val (.int g2), .val (.int (3 : Int32)), .val (.int k0), .val (.int k1), .val (.int k2), .val (.double d374), .second, .val (.double d376), .second, .val (.double d378), .second, .val (.double d379), .second, .val (.double d380), .second, .val (.double d381), .second, .val (.double d382), .second, .val (.long (eu.toInt64)), .second, .val (.double d432), .second, .val (.double d435), .second, .val (.ref b458)] [(.double d379), (.ref b458)])) rfl (by rw [hml]; rfl) (Steps.refl _) (argsL := [(.double d379)]) (rest := []) (lenOf pd__D_D rfl) rfl (by show 2 * 0 + _ ≤ _; exact Nat.le_of_eq rfl) (hb hby at_409) (fun _ _ => ⟨rfl, hh461, (by decide : 4 + 0 ≤ _), (by decide : 14 + 0 ≤ _)⟩)
    dsimp only [Pt.U, Pt.locs, Pt.cells, Pt.slots] at X462 l462 y462 z462 st462 hQ462
    subst l462 y462 z462
    obtain ⟨⟨w462, rfl, hw462⟩, N462q, hh462⟩ := hQ462
    have N462 := Fr.app N461 N462q
    refine own_go (fun t k => st462.trans k) ?_
    show own_G p.tables e below s _ _ _ (T462.setTop (mkF m 412 #[.val (.int p1), .val (.int p2), .val (.int p3), .val (.int p4), .val (.int p5), .val (.int p6), .val (.int g1), .val (.int g2), .val (.int (3 : Int32)), .val (.int k0), .val (.int k1), .val (.int k2), .val (.double d374), .second, .val (.double d376), .second, .val (.double d378), .second, .val (.double d379), .second, .val (.double d380), .second, .val (.double d381), .second, .val (.double d382), .second, .val (.long (eu.toInt64)), .second, .val (.double d432), .second, .val (.double d435), .second, .val (.ref b458)] [(.double w462)]))
    refine own_go (fun t k => XS.dload X462.here hx rfl (hb hby at_412) rfl k) ?_
    show own_G p.tables e below s _ _ _ (T462.setTop (mkF m 414 #[.val (.int p1), .val (.int p2), .val (.int p3), .val (.int p4), .val (.int p5), .val (.int p6), .val (.int g1), .val (.int g2), .val (.int (3 : Int32)), .val (.int k0), .val (.int k1), .val (.int k2), .val (.double d374), .second, .val (.double d376), .second, .val (.double d378), .second, .val (.double d379), .second, .val (.double d380), .second, .val (.double d381), .second, .val (.double d382), .second, .val (.long (eu.toInt64)), .second, .val (.double d432), .second, .val (.double d435), .second, .val (.ref b458)] [(.double d374), (.double w462)]))
    refine own_go (fun t k => XS.dcmpS X462.here hx rfl (hb hby at_414) rfl (own_cmpv hw462 D374) k) ?_
    show own_G p.tables e below s _ _ _ (T462.setTop (mkF m 415 #[.val (.int p1), .val (.int p2), .val (.int p3), .val (.int p4), .val (.int p5), .val (.int p6), .val (.int g1), .val (.int g2), .val (.int (3 : Int32)), .val (.int k0), .val (.int k1), .val (.int k2), .val (.double d374), .second, .val (.double d376), .second, .val (.double d378), .second, .val (.double d379), .second, .val (.double d380), .second, .val (.double d381), .second, .val (.double d382), .second, .val (.long (eu.toInt64)), .second, .val (.double d432), .second, .val (.double d435), .second, .val (.ref b458)] [(.int (own_c (2 * k0.toInt) (2 * k0.toInt)))]))
    refine own_go (fun t k => XS.ifNo X462.here hx rfl (hb hby at_415) rfl (Jvm.Free.XT.i0_ne_f (own_c_eq (by omega))) k) ?_
    show own_G p.tables e below s _ _ _ (T462.setTop (mkF m 418 #[.val (.int p1), .val (.int p2), .val (.int p3), .val (.int p4), .val (.int p5), .val (.int p6), .val (.int g1), .val (.int g2), .val (.int (3 : Int32)), .val (.int k0), .val (.int k1), .val (.int k2), .val (.double d374), .second, .val (.double d376), .second, .val (.double d378), .second, .val (.double d379), .second, .val (.double d380), .second, .val (.double d381), .second, .val (.double d382), .second, .val (.long (eu.toInt64)), .second, .val (.double d432), .second, .val (.double d435), .second, .val (.ref b458)] []))
    refine own_go (fun t k => XS.aload X462.here hx rfl (hb hby at_418) rfl rfl k) ?_
    show own_G p.tables e below s _ _ _ (T462.setTop (mkF m 420 #[.val (.int p1), .val (.int p2), .val (.int p3), .val (.int p4), .val (.int p5), .val (.int p6), .val (.int g1), .val (.int g2), .val (.int (3 : Int32)), .val (.int k0), .val (.int k1), .val (.int k2), .val (.double d374), .second, .val (.double d376), .second, .val (.double d378), .second, .val (.double d379), .second, .val (.double d380), .second, .val (.double d381), .second, .val (.double d382), .second, .val (.long (eu.toInt64)), .second, .val (.double d432), .second, .val (.double d435), .second, .val (.ref b458)] [(.ref b458)]))
    refine own_go (fun t k => XS.dload X462.here hx rfl (hb hby at_420) rfl k) ?_
    show own_G p.tables e below s _ _ _ (T462.setTop (mkF m 422 #[.val (.int p1), .val (.int p2), .val (.int p3), .val (.int p4), .val (.int p5), .val (.int p6), .val (.int g1), .val (.int g2), .val (.int (3 : Int32)), .val (.int k0), .val (.int k1), .val (.int k2), .val (.double d374), .second, .val (.double d376), .second, .val (.double d378), .second, .val (.double d379), .second, .val (.double d380), .second, .val (.double d381), .second, .val (.double d382), .second, .val (.long (eu.toInt64)), .second, .val (.double d432), .second, .val (.double d435), .second, .val (.ref b458)] [(.double d432), (.ref b458)]))
    obtain ⟨cq463, kq463, q463a, q463b, q463c⟩ := isOf hZ hh462 Eb458
    obtain ⟨_, _, ⟨T463, L463, k463, n463⟩, -, X463, ⟨Lc463, hQ463, l463, y463, z463⟩, st463⟩ := X462.virtualBack hx (y := (⟨"com/example/options_into_arguments/optionsintoarguments/quality/Curve", "at", "(D)D"⟩ : MethodName)) (z := (⟨"com/example/options_into_arguments/optionsintoarguments/quality/Curve", "at", "(D)D"⟩ : MethodName)) hown (mvT hZ (hw _ (List.mem_of_getElem? (i := 20) rfl))) (mvT hZ (hw _ (List.mem_of_getElem? (i := 21) rfl))) (notFace_of_selects (args := #[]) (mvT hZ (hw _ (List.mem_of_getElem? (i := 23) rfl)))) (mvT hZ (hw _ (List.mem_of_getElem? (i := 23) rfl))) (mvT hZ (hw _ (List.mem_of_getElem? (i := 22) rfl))) (by decide) (backOf (W := 0) (rmC3_1 l Z a0 hw [] b458 xa458 ya458 kx458 ky458 d432 (8 * p1.toInt + 4 * g1.toInt) d379 d374 d380 d376 d381 d378 (8 * (p1).toInt) (2 * k0.toInt) (8 * (p1.toInt + g1.toInt)) (2 * k1.toInt) (8 * (p1.toInt + g1.toInt + g2.toInt)) (2 * k2.toInt) ((k1.toInt - k0.toInt) * g1.toInt) (k1.toInt - k0.toInt) T458.heap n0 z460 D432 D379 D374 D380 D376 D381 D378 Fx458 Fy458 Vx458 Vy458 (by omega) (by omega) (by omega) (own_prod (k1.toInt - k0.toInt) g1.toInt (by omega) (by omega)) (own_quo (k1.toInt - k0.toInt) g1.toInt (by omega)) (by omega) (by omega) (by omega) (own_bnd (by omega) (by omega) (by omega) (by omega)) (by omega) (by omega) (by omega)) hZ (hw _ (List.mem_of_getElem? (i := 24) rfl)) (hw _ (List.mem_of_getElem? (i := 6) rfl)) (by decide) (by decide)) q463a q463c (g := (mkF m 422 #[.val (.int p1), .val (.int p2), .val (.int p3), .val (.int p4), .val (.int p5), .val (.int p6), .val (.int g1), .val (.int g2), .val (.int (3 : Int32)), .val (.int k0), .val (.int k1), .val (.int k2), .val (.double d374), .second, .val (.double d376), .second, .val (.double d378), .second, .val (.double d379), .second, .val (.double d380), .second, .val (.double d381), .second, .val (.double d382), .second, .val (.long (eu.toInt64)), .second, .val (.double d432), .second, .val (.double d435), .second, .val (.ref b458)] [(.double d432), (.ref b458)])) rfl (by rw [hml]; rfl) (Steps.refl _) (argsL := [(.double d432)]) (rest := []) (lenOf pd__D_D rfl) rfl (by show 2 * 0 + _ ≤ _; exact Nat.le_of_eq rfl) (hb hby at_422) (fun _ _ => ⟨rfl, hh462, (by decide : 4 + 0 ≤ _), (by decide : 14 + 0 ≤ _)⟩)
    dsimp only [Pt.U, Pt.locs, Pt.cells, Pt.slots] at X463 l463 y463 z463 st463 hQ463
    subst l463 y463 z463
    obtain ⟨⟨w463, rfl, hw463⟩, N463q, hh463⟩ := hQ463
    have N463 := Fr.app N462 N463q
    refine own_go (fun t k => st463.trans k) ?_
    show own_G p.tables e below s _ _ _ (T463.setTop (mkF m 425 #[.val (.int p1), .val (.int p2), .val (.int p3), .val (.int p4), .val (.int p5), .val (.int p6), .val (.int g1), .val (.int g2), .val (.int (3 : Int32)), .val (.int k0), .val (.int k1), .val (.int k2), .val (.double d374), .second, .val (.double d376), .second, .val (.double d378), .second, .val (.double d379), .second, .val (.double d380), .second, .val (.double d381), .second, .val (.double d382), .second, .val (.long (eu.toInt64)), .second, .val (.double d432), .second, .val (.double d435), .second, .val (.ref b458)] [(.double w463)]))
    refine own_go (fun t k => XS.iload X463.here hx rfl (hb hby at_425) rfl k) ?_
    show own_G p.tables e below s _ _ _ (T463.setTop (mkF m 427 #[.val (.int p1), .val (.int p2), .val (.int p3), .val (.int p4), .val (.int p5), .val (.int p6), .val (.int g1), .val (.int g2), .val (.int (3 : Int32)), .val (.int k0), .val (.int k1), .val (.int k2), .val (.double d374), .second, .val (.double d376), .second, .val (.double d378), .second, .val (.double d379), .second, .val (.double d380), .second, .val (.double d381), .second, .val (.double d382), .second, .val (.long (eu.toInt64)), .second, .val (.double d432), .second, .val (.double d435), .second, .val (.ref b458)] [(.int k0), (.double w463)]))
    refine own_go (fun t k => XS.iload X463.here hx rfl (hb hby at_427) rfl k) ?_
    show own_G p.tables e below s _ _ _ (T463.setTop (mkF m 429 #[.val (.int p1), .val (.int p2), .val (.int p3), .val (.int p4), .val (.int p5), .val (.int p6), .val (.int g1), .val (.int g2), .val (.int (3 : Int32)), .val (.int k0), .val (.int k1), .val (.int k2), .val (.double d374), .second, .val (.double d376), .second, .val (.double d378), .second, .val (.double d379), .second, .val (.double d380), .second, .val (.double d381), .second, .val (.double d382), .second, .val (.long (eu.toInt64)), .second, .val (.double d432), .second, .val (.double d435), .second, .val (.ref b458)] [(.int k1), (.int k0), (.double w463)]))
    refine own_go (fun t k => XS.iadd X463.here hx rfl (hb hby at_429) rfl k) ?_
    show own_G p.tables e below s _ _ _ (T463.setTop (mkF m 430 #[.val (.int p1), .val (.int p2), .val (.int p3), .val (.int p4), .val (.int p5), .val (.int p6), .val (.int g1), .val (.int g2), .val (.int (3 : Int32)), .val (.int k0), .val (.int k1), .val (.int k2), .val (.double d374), .second, .val (.double d376), .second, .val (.double d378), .second, .val (.double d379), .second, .val (.double d380), .second, .val (.double d381), .second, .val (.double d382), .second, .val (.long (eu.toInt64)), .second, .val (.double d432), .second, .val (.double d435), .second, .val (.ref b458)] [(.int (k0 + k1)), (.double w463)]))
    obtain ⟨d464, hd464⟩ : ∃ z, Jvm.FP.i2d (k0 + k1) = z := ⟨_, rfl⟩
    have D464 : own_E (8 * (k0.toInt + k1.toInt)) d464 := by rw [← hd464]; exact own_iE (own_add32 (v := k0.toInt + k1.toInt) rfl (by omega) (by omega))
    refine own_go (fun t k => XS.i2dS X463.here hx rfl (hb hby at_430) rfl hd464 k) ?_
    show own_G p.tables e below s _ _ _ (T463.setTop (mkF m 431 #[.val (.int p1), .val (.int p2), .val (.int p3), .val (.int p4), .val (.int p5), .val (.int p6), .val (.int g1), .val (.int g2), .val (.int (3 : Int32)), .val (.int k0), .val (.int k1), .val (.int k2), .val (.double d374), .second, .val (.double d376), .second, .val (.double d378), .second, .val (.double d379), .second, .val (.double d380), .second, .val (.double d381), .second, .val (.double d382), .second, .val (.long (eu.toInt64)), .second, .val (.double d432), .second, .val (.double d435), .second, .val (.ref b458)] [(.double d464), (.double w463)]))
    refine own_go (fun t k => X463.ldc2DoubleC hx hown (mvT hZ (hw _ (List.mem_of_getElem? (i := 26) rfl))) (g := (mkF m 431 #[.val (.int p1), .val (.int p2), .val (.int p3), .val (.int p4), .val (.int p5), .val (.int p6), .val (.int g1), .val (.int g2), .val (.int (3 : Int32)), .val (.int k0), .val (.int k1), .val (.int k2), .val (.double d374), .second, .val (.double d376), .second, .val (.double d378), .second, .val (.double d379), .second, .val (.double d380), .second, .val (.double d381), .second, .val (.double d382), .second, .val (.long (eu.toInt64)), .second, .val (.double d432), .second, .val (.double d435), .second, .val (.ref b458)] [(.double d464), (.double w463)])) rfl (hb hby at_431) _ k) ?_
    show own_G p.tables e below s _ _ _ (T463.setTop (mkF m 434 #[.val (.int p1), .val (.int p2), .val (.int p3), .val (.int p4), .val (.int p5), .val (.int p6), .val (.int g1), .val (.int g2), .val (.int (3 : Int32)), .val (.int k0), .val (.int k1), .val (.int k2), .val (.double d374), .second, .val (.double d376), .second, .val (.double d378), .second, .val (.double d379), .second, .val (.double d380), .second, .val (.double d381), .second, .val (.double d382), .second, .val (.long (eu.toInt64)), .second, .val (.double d432), .second, .val (.double d435), .second, .val (.ref b458)] [(.double (4620693217682128896 : UInt64)), (.double d464), (.double w463)]))
    obtain ⟨d465, hd465⟩ : ∃ z, Jvm.FP.ddiv d464 (4620693217682128896 : UInt64) = z := ⟨_, rfl⟩
    have D465 : own_E (k0.toInt + k1.toInt) d465 := by rw [← hd465]; exact own_div D464 own_8 (by decide) (by omega) (by omega)
    refine own_go (fun t k => XS.ddivS X463.here hx rfl (hb hby at_434) rfl (by rw [hd465]; exact own_num D465) hd465 k) ?_
    show own_G p.tables e below s _ _ _ (T463.setTop (mkF m 435 #[.val (.int p1), .val (.int p2), .val (.int p3), .val (.int p4), .val (.int p5), .val (.int p6), .val (.int g1), .val (.int g2), .val (.int (3 : Int32)), .val (.int k0), .val (.int k1), .val (.int k2), .val (.double d374), .second, .val (.double d376), .second, .val (.double d378), .second, .val (.double d379), .second, .val (.double d380), .second, .val (.double d381), .second, .val (.double d382), .second, .val (.long (eu.toInt64)), .second, .val (.double d432), .second, .val (.double d435), .second, .val (.ref b458)] [(.double d465), (.double w463)]))
    refine own_go (fun t k => XS.dcmpS X463.here hx rfl (hb hby at_435) rfl (own_cmpv hw463 D465) k) ?_
    show own_G p.tables e below s _ _ _ (T463.setTop (mkF m 436 #[.val (.int p1), .val (.int p2), .val (.int p3), .val (.int p4), .val (.int p5), .val (.int p6), .val (.int g1), .val (.int g2), .val (.int (3 : Int32)), .val (.int k0), .val (.int k1), .val (.int k2), .val (.double d374), .second, .val (.double d376), .second, .val (.double d378), .second, .val (.double d379), .second, .val (.double d380), .second, .val (.double d381), .second, .val (.double d382), .second, .val (.long (eu.toInt64)), .second, .val (.double d432), .second, .val (.double d435), .second, .val (.ref b458)] [(.int (own_c (2 * k0.toInt + (k1.toInt - k0.toInt)) (k0.toInt + k1.toInt)))]))
    refine own_go (fun t k => XS.ifNo X463.here hx rfl (hb hby at_436) rfl (Jvm.Free.XT.i0_ne_f (own_c_eq (by omega))) k) ?_
    show own_G p.tables e below s _ _ _ (T463.setTop (mkF m 439 #[.val (.int p1), .val (.int p2), .val (.int p3), .val (.int p4), .val (.int p5), .val (.int p6), .val (.int g1), .val (.int g2), .val (.int (3 : Int32)), .val (.int k0), .val (.int k1), .val (.int k2), .val (.double d374), .second, .val (.double d376), .second, .val (.double d378), .second, .val (.double d379), .second, .val (.double d380), .second, .val (.double d381), .second, .val (.double d382), .second, .val (.long (eu.toInt64)), .second, .val (.double d432), .second, .val (.double d435), .second, .val (.ref b458)] []))
    refine own_go (fun t k => XS.aload X463.here hx rfl (hb hby at_439) rfl rfl k) ?_
    show own_G p.tables e below s _ _ _ (T463.setTop (mkF m 441 #[.val (.int p1), .val (.int p2), .val (.int p3), .val (.int p4), .val (.int p5), .val (.int p6), .val (.int g1), .val (.int g2), .val (.int (3 : Int32)), .val (.int k0), .val (.int k1), .val (.int k2), .val (.double d374), .second, .val (.double d376), .second, .val (.double d378), .second, .val (.double d379), .second, .val (.double d380), .second, .val (.double d381), .second, .val (.double d382), .second, .val (.long (eu.toInt64)), .second, .val (.double d432), .second, .val (.double d435), .second, .val (.ref b458)] [(.ref b458)]))
    refine own_go (fun t k => XS.dload X463.here hx rfl (hb hby at_441) rfl k) ?_
    show own_G p.tables e below s _ _ _ (T463.setTop (mkF m 443 #[.val (.int p1), .val (.int p2), .val (.int p3), .val (.int p4), .val (.int p5), .val (.int p6), .val (.int g1), .val (.int g2), .val (.int (3 : Int32)), .val (.int k0), .val (.int k1), .val (.int k2), .val (.double d374), .second, .val (.double d376), .second, .val (.double d378), .second, .val (.double d379), .second, .val (.double d380), .second, .val (.double d381), .second, .val (.double d382), .second, .val (.long (eu.toInt64)), .second, .val (.double d432), .second, .val (.double d435), .second, .val (.ref b458)] [(.double d380), (.ref b458)]))
    obtain ⟨cq466, kq466, q466a, q466b, q466c⟩ := isOf hZ hh463 Eb458
    obtain ⟨_, _, ⟨T466, L466, k466, n466⟩, -, X466, ⟨Lc466, hQ466, l466, y466, z466⟩, st466⟩ := X463.virtualBack hx (y := (⟨"com/example/options_into_arguments/optionsintoarguments/quality/Curve", "at", "(D)D"⟩ : MethodName)) (z := (⟨"com/example/options_into_arguments/optionsintoarguments/quality/Curve", "at", "(D)D"⟩ : MethodName)) hown (mvT hZ (hw _ (List.mem_of_getElem? (i := 20) rfl))) (mvT hZ (hw _ (List.mem_of_getElem? (i := 21) rfl))) (notFace_of_selects (args := #[]) (mvT hZ (hw _ (List.mem_of_getElem? (i := 23) rfl)))) (mvT hZ (hw _ (List.mem_of_getElem? (i := 23) rfl))) (mvT hZ (hw _ (List.mem_of_getElem? (i := 22) rfl))) (by decide) (backOf (W := 0) (rmC3_1 l Z a0 hw [] b458 xa458 ya458 kx458 ky458 d380 (8 * (p1.toInt + g1.toInt)) d379 d374 d380 d376 d381 d378 (8 * (p1).toInt) (2 * k0.toInt) (8 * (p1.toInt + g1.toInt)) (2 * k1.toInt) (8 * (p1.toInt + g1.toInt + g2.toInt)) (2 * k2.toInt) ((2 * k1.toInt - 2 * k0.toInt) * g1.toInt) (2 * k1.toInt - 2 * k0.toInt) T458.heap n0 z460 D380 D379 D374 D380 D376 D381 D378 Fx458 Fy458 Vx458 Vy458 (by omega) (by omega) (by omega) (own_prod8 (2 * k1.toInt - 2 * k0.toInt) g1.toInt (by omega) (by omega)) (own_quo (2 * k1.toInt - 2 * k0.toInt) g1.toInt (by omega)) (by omega) (by omega) (by omega) (own_bnd (by omega) (by omega) (by omega) (by omega)) (by omega) (by omega) (by omega)) hZ (hw _ (List.mem_of_getElem? (i := 24) rfl)) (hw _ (List.mem_of_getElem? (i := 6) rfl)) (by decide) (by decide)) q466a q466c (g := (mkF m 443 #[.val (.int p1), .val (.int p2), .val (.int p3), .val (.int p4), .val (.int p5), .val (.int p6), .val (.int g1), .val (.int g2), .val (.int (3 : Int32)), .val (.int k0), .val (.int k1), .val (.int k2), .val (.double d374), .second, .val (.double d376), .second, .val (.double d378), .second, .val (.double d379), .second, .val (.double d380), .second, .val (.double d381), .second, .val (.double d382), .second, .val (.long (eu.toInt64)), .second, .val (.double d432), .second, .val (.double d435), .second, .val (.ref b458)] [(.double d380), (.ref b458)])) rfl (by rw [hml]; rfl) (Steps.refl _) (argsL := [(.double d380)]) (rest := []) (lenOf pd__D_D rfl) rfl (by show 2 * 0 + _ ≤ _; exact Nat.le_of_eq rfl) (hb hby at_443) (fun _ _ => ⟨rfl, hh463, (by decide : 4 + 0 ≤ _), (by decide : 14 + 0 ≤ _)⟩)
    dsimp only [Pt.U, Pt.locs, Pt.cells, Pt.slots] at X466 l466 y466 z466 st466 hQ466
    subst l466 y466 z466
    obtain ⟨⟨w466, rfl, hw466⟩, N466q, hh466⟩ := hQ466
    have N466 := Fr.app N463 N466q
    refine own_go (fun t k => st466.trans k) ?_
    show own_G p.tables e below s _ _ _ (T466.setTop (mkF m 446 #[.val (.int p1), .val (.int p2), .val (.int p3), .val (.int p4), .val (.int p5), .val (.int p6), .val (.int g1), .val (.int g2), .val (.int (3 : Int32)), .val (.int k0), .val (.int k1), .val (.int k2), .val (.double d374), .second, .val (.double d376), .second, .val (.double d378), .second, .val (.double d379), .second, .val (.double d380), .second, .val (.double d381), .second, .val (.double d382), .second, .val (.long (eu.toInt64)), .second, .val (.double d432), .second, .val (.double d435), .second, .val (.ref b458)] [(.double w466)]))
    refine own_go (fun t k => XS.dload X466.here hx rfl (hb hby at_446) rfl k) ?_
    show own_G p.tables e below s _ _ _ (T466.setTop (mkF m 448 #[.val (.int p1), .val (.int p2), .val (.int p3), .val (.int p4), .val (.int p5), .val (.int p6), .val (.int g1), .val (.int g2), .val (.int (3 : Int32)), .val (.int k0), .val (.int k1), .val (.int k2), .val (.double d374), .second, .val (.double d376), .second, .val (.double d378), .second, .val (.double d379), .second, .val (.double d380), .second, .val (.double d381), .second, .val (.double d382), .second, .val (.long (eu.toInt64)), .second, .val (.double d432), .second, .val (.double d435), .second, .val (.ref b458)] [(.double d376), (.double w466)]))
    refine own_go (fun t k => XS.dcmpS X466.here hx rfl (hb hby at_448) rfl (own_cmpv hw466 D376) k) ?_
    show own_G p.tables e below s _ _ _ (T466.setTop (mkF m 449 #[.val (.int p1), .val (.int p2), .val (.int p3), .val (.int p4), .val (.int p5), .val (.int p6), .val (.int g1), .val (.int g2), .val (.int (3 : Int32)), .val (.int k0), .val (.int k1), .val (.int k2), .val (.double d374), .second, .val (.double d376), .second, .val (.double d378), .second, .val (.double d379), .second, .val (.double d380), .second, .val (.double d381), .second, .val (.double d382), .second, .val (.long (eu.toInt64)), .second, .val (.double d432), .second, .val (.double d435), .second, .val (.ref b458)] [(.int (own_c (2 * k0.toInt + (2 * k1.toInt - 2 * k0.toInt)) (2 * k1.toInt)))]))
    refine own_go (fun t k => XS.ifNo X466.here hx rfl (hb hby at_449) rfl (Jvm.Free.XT.i0_ne_f (own_c_eq (by omega))) k) ?_
    show own_G p.tables e below s _ _ _ (T466.setTop (mkF m 452 #[.val (.int p1), .val (.int p2), .val (.int p3), .val (.int p4), .val (.int p5), .val (.int p6), .val (.int g1), .val (.int g2), .val (.int (3 : Int32)), .val (.int k0), .val (.int k1), .val (.int k2), .val (.double d374), .second, .val (.double d376), .second, .val (.double d378), .second, .val (.double d379), .second, .val (.double d380), .second, .val (.double d381), .second, .val (.double d382), .second, .val (.long (eu.toInt64)), .second, .val (.double d432), .second, .val (.double d435), .second, .val (.ref b458)] []))
    refine own_go (fun t k => XS.aload X466.here hx rfl (hb hby at_452) rfl rfl k) ?_
    show own_G p.tables e below s _ _ _ (T466.setTop (mkF m 454 #[.val (.int p1), .val (.int p2), .val (.int p3), .val (.int p4), .val (.int p5), .val (.int p6), .val (.int g1), .val (.int g2), .val (.int (3 : Int32)), .val (.int k0), .val (.int k1), .val (.int k2), .val (.double d374), .second, .val (.double d376), .second, .val (.double d378), .second, .val (.double d379), .second, .val (.double d380), .second, .val (.double d381), .second, .val (.double d382), .second, .val (.long (eu.toInt64)), .second, .val (.double d432), .second, .val (.double d435), .second, .val (.ref b458)] [(.ref b458)]))
    refine own_go (fun t k => XS.dload X466.here hx rfl (hb hby at_454) rfl k) ?_
    show own_G p.tables e below s _ _ _ (T466.setTop (mkF m 456 #[.val (.int p1), .val (.int p2), .val (.int p3), .val (.int p4), .val (.int p5), .val (.int p6), .val (.int g1), .val (.int g2), .val (.int (3 : Int32)), .val (.int k0), .val (.int k1), .val (.int k2), .val (.double d374), .second, .val (.double d376), .second, .val (.double d378), .second, .val (.double d379), .second, .val (.double d380), .second, .val (.double d381), .second, .val (.double d382), .second, .val (.long (eu.toInt64)), .second, .val (.double d432), .second, .val (.double d435), .second, .val (.ref b458)] [(.double d435), (.ref b458)]))
    obtain ⟨cq467, kq467, q467a, q467b, q467c⟩ := isOf hZ hh466 Eb458
    obtain ⟨_, _, ⟨T467, L467, k467, n467⟩, -, X467, ⟨Lc467, hQ467, l467, y467, z467⟩, st467⟩ := X466.virtualBack hx (y := (⟨"com/example/options_into_arguments/optionsintoarguments/quality/Curve", "at", "(D)D"⟩ : MethodName)) (z := (⟨"com/example/options_into_arguments/optionsintoarguments/quality/Curve", "at", "(D)D"⟩ : MethodName)) hown (mvT hZ (hw _ (List.mem_of_getElem? (i := 20) rfl))) (mvT hZ (hw _ (List.mem_of_getElem? (i := 21) rfl))) (notFace_of_selects (args := #[]) (mvT hZ (hw _ (List.mem_of_getElem? (i := 23) rfl)))) (mvT hZ (hw _ (List.mem_of_getElem? (i := 23) rfl))) (mvT hZ (hw _ (List.mem_of_getElem? (i := 22) rfl))) (by decide) (backOf (W := 0) (rmC3_2 l Z a0 hw [] b458 xa458 ya458 kx458 ky458 d435 (8 * (p1.toInt + g1.toInt) + 4 * g2.toInt) d379 d374 d380 d376 d381 d378 (8 * (p1).toInt) (2 * k0.toInt) (8 * (p1.toInt + g1.toInt)) (2 * k1.toInt) (8 * (p1.toInt + g1.toInt + g2.toInt)) (2 * k2.toInt) ((k2.toInt - k1.toInt) * g2.toInt) (k2.toInt - k1.toInt) T458.heap n0 z460 D435 D379 D374 D380 D376 D381 D378 Fx458 Fy458 Vx458 Vy458 (by omega) (by omega) (by omega) (by omega) (own_prod (k2.toInt - k1.toInt) g2.toInt (by omega) (by omega)) (own_quo (k2.toInt - k1.toInt) g2.toInt (by omega)) (by omega) (by omega) (by omega) (own_bnd (by omega) (by omega) (by omega) (by omega)) (by omega) (by omega) (by omega)) hZ (hw _ (List.mem_of_getElem? (i := 24) rfl)) (hw _ (List.mem_of_getElem? (i := 6) rfl)) (by decide) (by decide)) q467a q467c (g := (mkF m 456 #[.val (.int p1), .val (.int p2), .val (.int p3), .val (.int p4), .val (.int p5), .val (.int p6), .val (.int g1), .val (.int g2), .val (.int (3 : Int32)), .val (.int k0), .val (.int k1), .val (.int k2), .val (.double d374), .second, .val (.double d376), .second, .val (.double d378), .second, .val (.double d379), .second, .val (.double d380), .second, .val (.double d381), .second, .val (.double d382), .second, .val (.long (eu.toInt64)), .second, .val (.double d432), .second, .val (.double d435), .second, .val (.ref b458)] [(.double d435), (.ref b458)])) rfl (by rw [hml]; rfl) (Steps.refl _) (argsL := [(.double d435)]) (rest := []) (lenOf pd__D_D rfl) rfl (by show 2 * 0 + _ ≤ _; exact Nat.le_of_eq rfl) (hb hby at_456) (fun _ _ => ⟨rfl, hh466, (by decide : 4 + 0 ≤ _), (by decide : 14 + 0 ≤ _)⟩)
    dsimp only [Pt.U, Pt.locs, Pt.cells, Pt.slots] at X467 l467 y467 z467 st467 hQ467
    subst l467 y467 z467
    obtain ⟨⟨w467, rfl, hw467⟩, N467q, hh467⟩ := hQ467
    have N467 := Fr.app N466 N467q
    refine own_go (fun t k => st467.trans k) ?_
    show own_G p.tables e below s _ _ _ (T467.setTop (mkF m 459 #[.val (.int p1), .val (.int p2), .val (.int p3), .val (.int p4), .val (.int p5), .val (.int p6), .val (.int g1), .val (.int g2), .val (.int (3 : Int32)), .val (.int k0), .val (.int k1), .val (.int k2), .val (.double d374), .second, .val (.double d376), .second, .val (.double d378), .second, .val (.double d379), .second, .val (.double d380), .second, .val (.double d381), .second, .val (.double d382), .second, .val (.long (eu.toInt64)), .second, .val (.double d432), .second, .val (.double d435), .second, .val (.ref b458)] [(.double w467)]))
    refine own_go (fun t k => XS.iload X467.here hx rfl (hb hby at_459) rfl k) ?_
    show own_G p.tables e below s _ _ _ (T467.setTop (mkF m 461 #[.val (.int p1), .val (.int p2), .val (.int p3), .val (.int p4), .val (.int p5), .val (.int p6), .val (.int g1), .val (.int g2), .val (.int (3 : Int32)), .val (.int k0), .val (.int k1), .val (.int k2), .val (.double d374), .second, .val (.double d376), .second, .val (.double d378), .second, .val (.double d379), .second, .val (.double d380), .second, .val (.double d381), .second, .val (.double d382), .second, .val (.long (eu.toInt64)), .second, .val (.double d432), .second, .val (.double d435), .second, .val (.ref b458)] [(.int k1), (.double w467)]))
    refine own_go (fun t k => XS.iload X467.here hx rfl (hb hby at_461) rfl k) ?_
    show own_G p.tables e below s _ _ _ (T467.setTop (mkF m 463 #[.val (.int p1), .val (.int p2), .val (.int p3), .val (.int p4), .val (.int p5), .val (.int p6), .val (.int g1), .val (.int g2), .val (.int (3 : Int32)), .val (.int k0), .val (.int k1), .val (.int k2), .val (.double d374), .second, .val (.double d376), .second, .val (.double d378), .second, .val (.double d379), .second, .val (.double d380), .second, .val (.double d381), .second, .val (.double d382), .second, .val (.long (eu.toInt64)), .second, .val (.double d432), .second, .val (.double d435), .second, .val (.ref b458)] [(.int k2), (.int k1), (.double w467)]))
    refine own_go (fun t k => XS.iadd X467.here hx rfl (hb hby at_463) rfl k) ?_
    show own_G p.tables e below s _ _ _ (T467.setTop (mkF m 464 #[.val (.int p1), .val (.int p2), .val (.int p3), .val (.int p4), .val (.int p5), .val (.int p6), .val (.int g1), .val (.int g2), .val (.int (3 : Int32)), .val (.int k0), .val (.int k1), .val (.int k2), .val (.double d374), .second, .val (.double d376), .second, .val (.double d378), .second, .val (.double d379), .second, .val (.double d380), .second, .val (.double d381), .second, .val (.double d382), .second, .val (.long (eu.toInt64)), .second, .val (.double d432), .second, .val (.double d435), .second, .val (.ref b458)] [(.int (k1 + k2)), (.double w467)]))
    obtain ⟨d468, hd468⟩ : ∃ z, Jvm.FP.i2d (k1 + k2) = z := ⟨_, rfl⟩
    have D468 : own_E (8 * (k1.toInt + k2.toInt)) d468 := by rw [← hd468]; exact own_iE (own_add32 (v := k1.toInt + k2.toInt) rfl (by omega) (by omega))
    refine own_go (fun t k => XS.i2dS X467.here hx rfl (hb hby at_464) rfl hd468 k) ?_
    show own_G p.tables e below s _ _ _ (T467.setTop (mkF m 465 #[.val (.int p1), .val (.int p2), .val (.int p3), .val (.int p4), .val (.int p5), .val (.int p6), .val (.int g1), .val (.int g2), .val (.int (3 : Int32)), .val (.int k0), .val (.int k1), .val (.int k2), .val (.double d374), .second, .val (.double d376), .second, .val (.double d378), .second, .val (.double d379), .second, .val (.double d380), .second, .val (.double d381), .second, .val (.double d382), .second, .val (.long (eu.toInt64)), .second, .val (.double d432), .second, .val (.double d435), .second, .val (.ref b458)] [(.double d468), (.double w467)]))
    refine own_go (fun t k => X467.ldc2DoubleC hx hown (mvT hZ (hw _ (List.mem_of_getElem? (i := 26) rfl))) (g := (mkF m 465 #[.val (.int p1), .val (.int p2), .val (.int p3), .val (.int p4), .val (.int p5), .val (.int p6), .val (.int g1), .val (.int g2), .val (.int (3 : Int32)), .val (.int k0), .val (.int k1), .val (.int k2), .val (.double d374), .second, .val (.double d376), .second, .val (.double d378), .second, .val (.double d379), .second, .val (.double d380), .second, .val (.double d381), .second, .val (.double d382), .second, .val (.long (eu.toInt64)), .second, .val (.double d432), .second, .val (.double d435), .second, .val (.ref b458)] [(.double d468), (.double w467)])) rfl (hb hby at_465) _ k) ?_
    show own_G p.tables e below s _ _ _ (T467.setTop (mkF m 468 #[.val (.int p1), .val (.int p2), .val (.int p3), .val (.int p4), .val (.int p5), .val (.int p6), .val (.int g1), .val (.int g2), .val (.int (3 : Int32)), .val (.int k0), .val (.int k1), .val (.int k2), .val (.double d374), .second, .val (.double d376), .second, .val (.double d378), .second, .val (.double d379), .second, .val (.double d380), .second, .val (.double d381), .second, .val (.double d382), .second, .val (.long (eu.toInt64)), .second, .val (.double d432), .second, .val (.double d435), .second, .val (.ref b458)] [(.double (4620693217682128896 : UInt64)), (.double d468), (.double w467)]))
    obtain ⟨d469, hd469⟩ : ∃ z, Jvm.FP.ddiv d468 (4620693217682128896 : UInt64) = z := ⟨_, rfl⟩
    have D469 : own_E (k1.toInt + k2.toInt) d469 := by rw [← hd469]; exact own_div D468 own_8 (by decide) (by omega) (by omega)
    refine own_go (fun t k => XS.ddivS X467.here hx rfl (hb hby at_468) rfl (by rw [hd469]; exact own_num D469) hd469 k) ?_
    show own_G p.tables e below s _ _ _ (T467.setTop (mkF m 469 #[.val (.int p1), .val (.int p2), .val (.int p3), .val (.int p4), .val (.int p5), .val (.int p6), .val (.int g1), .val (.int g2), .val (.int (3 : Int32)), .val (.int k0), .val (.int k1), .val (.int k2), .val (.double d374), .second, .val (.double d376), .second, .val (.double d378), .second, .val (.double d379), .second, .val (.double d380), .second, .val (.double d381), .second, .val (.double d382), .second, .val (.long (eu.toInt64)), .second, .val (.double d432), .second, .val (.double d435), .second, .val (.ref b458)] [(.double d469), (.double w467)]))
    refine own_go (fun t k => XS.dcmpS X467.here hx rfl (hb hby at_469) rfl (own_cmpv hw467 D469) k) ?_
    show own_G p.tables e below s _ _ _ (T467.setTop (mkF m 470 #[.val (.int p1), .val (.int p2), .val (.int p3), .val (.int p4), .val (.int p5), .val (.int p6), .val (.int g1), .val (.int g2), .val (.int (3 : Int32)), .val (.int k0), .val (.int k1), .val (.int k2), .val (.double d374), .second, .val (.double d376), .second, .val (.double d378), .second, .val (.double d379), .second, .val (.double d380), .second, .val (.double d381), .second, .val (.double d382), .second, .val (.long (eu.toInt64)), .second, .val (.double d432), .second, .val (.double d435), .second, .val (.ref b458)] [(.int (own_c (2 * k1.toInt + (k2.toInt - k1.toInt)) (k1.toInt + k2.toInt)))]))
    refine own_go (fun t k => XS.ifNo X467.here hx rfl (hb hby at_470) rfl (Jvm.Free.XT.i0_ne_f (own_c_eq (by omega))) k) ?_
    show own_G p.tables e below s _ _ _ (T467.setTop (mkF m 473 #[.val (.int p1), .val (.int p2), .val (.int p3), .val (.int p4), .val (.int p5), .val (.int p6), .val (.int g1), .val (.int g2), .val (.int (3 : Int32)), .val (.int k0), .val (.int k1), .val (.int k2), .val (.double d374), .second, .val (.double d376), .second, .val (.double d378), .second, .val (.double d379), .second, .val (.double d380), .second, .val (.double d381), .second, .val (.double d382), .second, .val (.long (eu.toInt64)), .second, .val (.double d432), .second, .val (.double d435), .second, .val (.ref b458)] []))
    refine own_go (fun t k => XS.aload X467.here hx rfl (hb hby at_473) rfl rfl k) ?_
    show own_G p.tables e below s _ _ _ (T467.setTop (mkF m 475 #[.val (.int p1), .val (.int p2), .val (.int p3), .val (.int p4), .val (.int p5), .val (.int p6), .val (.int g1), .val (.int g2), .val (.int (3 : Int32)), .val (.int k0), .val (.int k1), .val (.int k2), .val (.double d374), .second, .val (.double d376), .second, .val (.double d378), .second, .val (.double d379), .second, .val (.double d380), .second, .val (.double d381), .second, .val (.double d382), .second, .val (.long (eu.toInt64)), .second, .val (.double d432), .second, .val (.double d435), .second, .val (.ref b458)] [(.ref b458)]))
    refine own_go (fun t k => XS.dload X467.here hx rfl (hb hby at_475) rfl k) ?_
    show own_G p.tables e below s _ _ _ (T467.setTop (mkF m 477 #[.val (.int p1), .val (.int p2), .val (.int p3), .val (.int p4), .val (.int p5), .val (.int p6), .val (.int g1), .val (.int g2), .val (.int (3 : Int32)), .val (.int k0), .val (.int k1), .val (.int k2), .val (.double d374), .second, .val (.double d376), .second, .val (.double d378), .second, .val (.double d379), .second, .val (.double d380), .second, .val (.double d381), .second, .val (.double d382), .second, .val (.long (eu.toInt64)), .second, .val (.double d432), .second, .val (.double d435), .second, .val (.ref b458)] [(.double d381), (.ref b458)]))
    obtain ⟨cq470, kq470, q470a, q470b, q470c⟩ := isOf hZ hh467 Eb458
    obtain ⟨_, _, ⟨T470, L470, k470, n470⟩, -, X470, ⟨Lc470, hQ470, l470, y470, z470⟩, st470⟩ := X467.virtualBack hx (y := (⟨"com/example/options_into_arguments/optionsintoarguments/quality/Curve", "at", "(D)D"⟩ : MethodName)) (z := (⟨"com/example/options_into_arguments/optionsintoarguments/quality/Curve", "at", "(D)D"⟩ : MethodName)) hown (mvT hZ (hw _ (List.mem_of_getElem? (i := 20) rfl))) (mvT hZ (hw _ (List.mem_of_getElem? (i := 21) rfl))) (notFace_of_selects (args := #[]) (mvT hZ (hw _ (List.mem_of_getElem? (i := 23) rfl)))) (mvT hZ (hw _ (List.mem_of_getElem? (i := 23) rfl))) (mvT hZ (hw _ (List.mem_of_getElem? (i := 22) rfl))) (by decide) (backOf (W := 0) (rmB3 l Z a0 hw [] b458 xa458 ya458 kx458 ky458 d381 (8 * (p1.toInt + g1.toInt + g2.toInt)) d379 d374 d380 d376 d381 d378 (8 * (p1).toInt) (2 * k0.toInt) (8 * (p1.toInt + g1.toInt)) (2 * k1.toInt) (8 * (p1.toInt + g1.toInt + g2.toInt)) (2 * k2.toInt) T458.heap n0 z460 D381 D379 D374 D380 D376 D381 D378 Fx458 Fy458 Vx458 Vy458 (by omega) (by omega)) hZ (hw _ (List.mem_of_getElem? (i := 24) rfl)) (hw _ (List.mem_of_getElem? (i := 6) rfl)) (by decide) (by decide)) q470a q470c (g := (mkF m 477 #[.val (.int p1), .val (.int p2), .val (.int p3), .val (.int p4), .val (.int p5), .val (.int p6), .val (.int g1), .val (.int g2), .val (.int (3 : Int32)), .val (.int k0), .val (.int k1), .val (.int k2), .val (.double d374), .second, .val (.double d376), .second, .val (.double d378), .second, .val (.double d379), .second, .val (.double d380), .second, .val (.double d381), .second, .val (.double d382), .second, .val (.long (eu.toInt64)), .second, .val (.double d432), .second, .val (.double d435), .second, .val (.ref b458)] [(.double d381), (.ref b458)])) rfl (by rw [hml]; rfl) (Steps.refl _) (argsL := [(.double d381)]) (rest := []) (lenOf pd__D_D rfl) rfl (by show 2 * 0 + _ ≤ _; exact Nat.le_of_eq rfl) (hb hby at_477) (fun _ _ => ⟨rfl, hh467, (by decide : 4 + 0 ≤ _), (by decide : 14 + 0 ≤ _)⟩)
    dsimp only [Pt.U, Pt.locs, Pt.cells, Pt.slots] at X470 l470 y470 z470 st470 hQ470
    subst l470 y470 z470
    obtain ⟨⟨w470, rfl, hw470⟩, N470q, hh470⟩ := hQ470
    have N470 := Fr.app N467 N470q
    refine own_go (fun t k => st470.trans k) ?_
    show own_G p.tables e below s _ _ _ (T470.setTop (mkF m 480 #[.val (.int p1), .val (.int p2), .val (.int p3), .val (.int p4), .val (.int p5), .val (.int p6), .val (.int g1), .val (.int g2), .val (.int (3 : Int32)), .val (.int k0), .val (.int k1), .val (.int k2), .val (.double d374), .second, .val (.double d376), .second, .val (.double d378), .second, .val (.double d379), .second, .val (.double d380), .second, .val (.double d381), .second, .val (.double d382), .second, .val (.long (eu.toInt64)), .second, .val (.double d432), .second, .val (.double d435), .second, .val (.ref b458)] [(.double w470)]))
    refine own_go (fun t k => XS.dload X470.here hx rfl (hb hby at_480) rfl k) ?_
    show own_G p.tables e below s _ _ _ (T470.setTop (mkF m 482 #[.val (.int p1), .val (.int p2), .val (.int p3), .val (.int p4), .val (.int p5), .val (.int p6), .val (.int g1), .val (.int g2), .val (.int (3 : Int32)), .val (.int k0), .val (.int k1), .val (.int k2), .val (.double d374), .second, .val (.double d376), .second, .val (.double d378), .second, .val (.double d379), .second, .val (.double d380), .second, .val (.double d381), .second, .val (.double d382), .second, .val (.long (eu.toInt64)), .second, .val (.double d432), .second, .val (.double d435), .second, .val (.ref b458)] [(.double d378), (.double w470)]))
    refine own_go (fun t k => XS.dcmpS X470.here hx rfl (hb hby at_482) rfl (own_cmpv hw470 D378) k) ?_
    show own_G p.tables e below s _ _ _ (T470.setTop (mkF m 483 #[.val (.int p1), .val (.int p2), .val (.int p3), .val (.int p4), .val (.int p5), .val (.int p6), .val (.int g1), .val (.int g2), .val (.int (3 : Int32)), .val (.int k0), .val (.int k1), .val (.int k2), .val (.double d374), .second, .val (.double d376), .second, .val (.double d378), .second, .val (.double d379), .second, .val (.double d380), .second, .val (.double d381), .second, .val (.double d382), .second, .val (.long (eu.toInt64)), .second, .val (.double d432), .second, .val (.double d435), .second, .val (.ref b458)] [(.int (own_c (2 * k2.toInt) (2 * k2.toInt)))]))
    refine own_go (fun t k => XS.ifNo X470.here hx rfl (hb hby at_483) rfl (Jvm.Free.XT.i0_ne_f (own_c_eq (by omega))) k) ?_
    show own_G p.tables e below s _ _ _ (T470.setTop (mkF m 486 #[.val (.int p1), .val (.int p2), .val (.int p3), .val (.int p4), .val (.int p5), .val (.int p6), .val (.int g1), .val (.int g2), .val (.int (3 : Int32)), .val (.int k0), .val (.int k1), .val (.int k2), .val (.double d374), .second, .val (.double d376), .second, .val (.double d378), .second, .val (.double d379), .second, .val (.double d380), .second, .val (.double d381), .second, .val (.double d382), .second, .val (.long (eu.toInt64)), .second, .val (.double d432), .second, .val (.double d435), .second, .val (.ref b458)] []))
    refine own_go (fun t k => XS.aload X470.here hx rfl (hb hby at_486) rfl rfl k) ?_
    show own_G p.tables e below s _ _ _ (T470.setTop (mkF m 488 #[.val (.int p1), .val (.int p2), .val (.int p3), .val (.int p4), .val (.int p5), .val (.int p6), .val (.int g1), .val (.int g2), .val (.int (3 : Int32)), .val (.int k0), .val (.int k1), .val (.int k2), .val (.double d374), .second, .val (.double d376), .second, .val (.double d378), .second, .val (.double d379), .second, .val (.double d380), .second, .val (.double d381), .second, .val (.double d382), .second, .val (.long (eu.toInt64)), .second, .val (.double d432), .second, .val (.double d435), .second, .val (.ref b458)] [(.ref b458)]))
    refine own_go (fun t k => XS.iloadN X470.here hx rfl (hb hby at_488) rfl k) ?_
    show own_G p.tables e below s _ _ _ (T470.setTop (mkF m 489 #[.val (.int p1), .val (.int p2), .val (.int p3), .val (.int p4), .val (.int p5), .val (.int p6), .val (.int g1), .val (.int g2), .val (.int (3 : Int32)), .val (.int k0), .val (.int k1), .val (.int k2), .val (.double d374), .second, .val (.double d376), .second, .val (.double d378), .second, .val (.double d379), .second, .val (.double d380), .second, .val (.double d381), .second, .val (.double d382), .second, .val (.long (eu.toInt64)), .second, .val (.double d432), .second, .val (.double d435), .second, .val (.ref b458)] [(.int p1), (.ref b458)]))
    refine own_go (fun t k => XS.i2l X470.here hx rfl (hb hby at_489) rfl k) ?_
    show own_G p.tables e below s _ _ _ (T470.setTop (mkF m 490 #[.val (.int p1), .val (.int p2), .val (.int p3), .val (.int p4), .val (.int p5), .val (.int p6), .val (.int g1), .val (.int g2), .val (.int (3 : Int32)), .val (.int k0), .val (.int k1), .val (.int k2), .val (.double d374), .second, .val (.double d376), .second, .val (.double d378), .second, .val (.double d379), .second, .val (.double d380), .second, .val (.double d381), .second, .val (.double d382), .second, .val (.long (eu.toInt64)), .second, .val (.double d432), .second, .val (.double d435), .second, .val (.ref b458)] [(.long (p1.toInt64)), (.ref b458)]))
    refine own_go (fun t k => XS.iload X470.here hx rfl (hb hby at_490) rfl k) ?_
    show own_G p.tables e below s _ _ _ (T470.setTop (mkF m 492 #[.val (.int p1), .val (.int p2), .val (.int p3), .val (.int p4), .val (.int p5), .val (.int p6), .val (.int g1), .val (.int g2), .val (.int (3 : Int32)), .val (.int k0), .val (.int k1), .val (.int k2), .val (.double d374), .second, .val (.double d376), .second, .val (.double d378), .second, .val (.double d379), .second, .val (.double d380), .second, .val (.double d381), .second, .val (.double d382), .second, .val (.long (eu.toInt64)), .second, .val (.double d432), .second, .val (.double d435), .second, .val (.ref b458)] [(.int g1), (.long (p1.toInt64)), (.ref b458)]))
    refine own_go (fun t k => XS.i2l X470.here hx rfl (hb hby at_492) rfl k) ?_
    show own_G p.tables e below s _ _ _ (T470.setTop (mkF m 493 #[.val (.int p1), .val (.int p2), .val (.int p3), .val (.int p4), .val (.int p5), .val (.int p6), .val (.int g1), .val (.int g2), .val (.int (3 : Int32)), .val (.int k0), .val (.int k1), .val (.int k2), .val (.double d374), .second, .val (.double d376), .second, .val (.double d378), .second, .val (.double d379), .second, .val (.double d380), .second, .val (.double d381), .second, .val (.double d382), .second, .val (.long (eu.toInt64)), .second, .val (.double d432), .second, .val (.double d435), .second, .val (.ref b458)] [(.long (g1.toInt64)), (.long (p1.toInt64)), (.ref b458)]))
    refine own_go (fun t k => XS.ladd X470.here hx rfl (hb hby at_493) rfl k) ?_
    show own_G p.tables e below s _ _ _ (T470.setTop (mkF m 494 #[.val (.int p1), .val (.int p2), .val (.int p3), .val (.int p4), .val (.int p5), .val (.int p6), .val (.int g1), .val (.int g2), .val (.int (3 : Int32)), .val (.int k0), .val (.int k1), .val (.int k2), .val (.double d374), .second, .val (.double d376), .second, .val (.double d378), .second, .val (.double d379), .second, .val (.double d380), .second, .val (.double d381), .second, .val (.double d382), .second, .val (.long (eu.toInt64)), .second, .val (.double d432), .second, .val (.double d435), .second, .val (.ref b458)] [(.long ((p1.toInt64) + (g1.toInt64))), (.ref b458)]))
    refine own_go (fun t k => XS.iload X470.here hx rfl (hb hby at_494) rfl k) ?_
    show own_G p.tables e below s _ _ _ (T470.setTop (mkF m 496 #[.val (.int p1), .val (.int p2), .val (.int p3), .val (.int p4), .val (.int p5), .val (.int p6), .val (.int g1), .val (.int g2), .val (.int (3 : Int32)), .val (.int k0), .val (.int k1), .val (.int k2), .val (.double d374), .second, .val (.double d376), .second, .val (.double d378), .second, .val (.double d379), .second, .val (.double d380), .second, .val (.double d381), .second, .val (.double d382), .second, .val (.long (eu.toInt64)), .second, .val (.double d432), .second, .val (.double d435), .second, .val (.ref b458)] [(.int g2), (.long ((p1.toInt64) + (g1.toInt64))), (.ref b458)]))
    refine own_go (fun t k => XS.i2l X470.here hx rfl (hb hby at_496) rfl k) ?_
    show own_G p.tables e below s _ _ _ (T470.setTop (mkF m 497 #[.val (.int p1), .val (.int p2), .val (.int p3), .val (.int p4), .val (.int p5), .val (.int p6), .val (.int g1), .val (.int g2), .val (.int (3 : Int32)), .val (.int k0), .val (.int k1), .val (.int k2), .val (.double d374), .second, .val (.double d376), .second, .val (.double d378), .second, .val (.double d379), .second, .val (.double d380), .second, .val (.double d381), .second, .val (.double d382), .second, .val (.long (eu.toInt64)), .second, .val (.double d432), .second, .val (.double d435), .second, .val (.ref b458)] [(.long (g2.toInt64)), (.long ((p1.toInt64) + (g1.toInt64))), (.ref b458)]))
    refine own_go (fun t k => XS.ladd X470.here hx rfl (hb hby at_497) rfl k) ?_
    show own_G p.tables e below s _ _ _ (T470.setTop (mkF m 498 #[.val (.int p1), .val (.int p2), .val (.int p3), .val (.int p4), .val (.int p5), .val (.int p6), .val (.int g1), .val (.int g2), .val (.int (3 : Int32)), .val (.int k0), .val (.int k1), .val (.int k2), .val (.double d374), .second, .val (.double d376), .second, .val (.double d378), .second, .val (.double d379), .second, .val (.double d380), .second, .val (.double d381), .second, .val (.double d382), .second, .val (.long (eu.toInt64)), .second, .val (.double d432), .second, .val (.double d435), .second, .val (.ref b458)] [(.long (((p1.toInt64) + (g1.toInt64)) + (g2.toInt64))), (.ref b458)]))
    refine own_go (fun t k => XS.lload X470.here hx rfl (hb hby at_498) rfl k) ?_
    show own_G p.tables e below s _ _ _ (T470.setTop (mkF m 500 #[.val (.int p1), .val (.int p2), .val (.int p3), .val (.int p4), .val (.int p5), .val (.int p6), .val (.int g1), .val (.int g2), .val (.int (3 : Int32)), .val (.int k0), .val (.int k1), .val (.int k2), .val (.double d374), .second, .val (.double d376), .second, .val (.double d378), .second, .val (.double d379), .second, .val (.double d380), .second, .val (.double d381), .second, .val (.double d382), .second, .val (.long (eu.toInt64)), .second, .val (.double d432), .second, .val (.double d435), .second, .val (.ref b458)] [(.long (eu.toInt64)), (.long (((p1.toInt64) + (g1.toInt64)) + (g2.toInt64))), (.ref b458)]))
    refine own_go (fun t k => XS.ladd X470.here hx rfl (hb hby at_500) rfl k) ?_
    show own_G p.tables e below s _ _ _ (T470.setTop (mkF m 501 #[.val (.int p1), .val (.int p2), .val (.int p3), .val (.int p4), .val (.int p5), .val (.int p6), .val (.int g1), .val (.int g2), .val (.int (3 : Int32)), .val (.int k0), .val (.int k1), .val (.int k2), .val (.double d374), .second, .val (.double d376), .second, .val (.double d378), .second, .val (.double d379), .second, .val (.double d380), .second, .val (.double d381), .second, .val (.double d382), .second, .val (.long (eu.toInt64)), .second, .val (.double d432), .second, .val (.double d435), .second, .val (.ref b458)] [(.long ((((p1.toInt64) + (g1.toInt64)) + (g2.toInt64)) + (eu.toInt64))), (.ref b458)]))
    obtain ⟨d471, hd471⟩ : ∃ z, Jvm.FP.l2d ((((p1.toInt64) + (g1.toInt64)) + (g2.toInt64)) + (eu.toInt64)) = z := ⟨_, rfl⟩
    have D471 : own_E (8 * (p1.toInt + g1.toInt + g2.toInt + eu.toInt)) d471 := by rw [← hd471]; exact own_lE (own_add64 (v := p1.toInt + g1.toInt + g2.toInt + eu.toInt) (by rw [own_add64 (v := p1.toInt + g1.toInt + g2.toInt) (by rw [own_add64 (v := p1.toInt + g1.toInt) (by rw [own_w, own_w]) (by omega) (by omega), own_w]) (by omega) (by omega), own_w]) (by omega) (by omega)) (by omega)
    refine own_go (fun t k => XS.l2dS X470.here hx rfl (hb hby at_501) rfl hd471 k) ?_
    show own_G p.tables e below s _ _ _ (T470.setTop (mkF m 502 #[.val (.int p1), .val (.int p2), .val (.int p3), .val (.int p4), .val (.int p5), .val (.int p6), .val (.int g1), .val (.int g2), .val (.int (3 : Int32)), .val (.int k0), .val (.int k1), .val (.int k2), .val (.double d374), .second, .val (.double d376), .second, .val (.double d378), .second, .val (.double d379), .second, .val (.double d380), .second, .val (.double d381), .second, .val (.double d382), .second, .val (.long (eu.toInt64)), .second, .val (.double d432), .second, .val (.double d435), .second, .val (.ref b458)] [(.double d471), (.ref b458)]))
    obtain ⟨cq472, kq472, q472a, q472b, q472c⟩ := isOf hZ hh470 Eb458
    obtain ⟨_, _, ⟨T472, L472, k472, n472⟩, -, X472, ⟨Lc472, hQ472, l472, y472, z472⟩, st472⟩ := X470.virtualBack hx (y := (⟨"com/example/options_into_arguments/optionsintoarguments/quality/Curve", "at", "(D)D"⟩ : MethodName)) (z := (⟨"com/example/options_into_arguments/optionsintoarguments/quality/Curve", "at", "(D)D"⟩ : MethodName)) hown (mvT hZ (hw _ (List.mem_of_getElem? (i := 20) rfl))) (mvT hZ (hw _ (List.mem_of_getElem? (i := 21) rfl))) (notFace_of_selects (args := #[]) (mvT hZ (hw _ (List.mem_of_getElem? (i := 23) rfl)))) (mvT hZ (hw _ (List.mem_of_getElem? (i := 23) rfl))) (mvT hZ (hw _ (List.mem_of_getElem? (i := 22) rfl))) (by decide) (backOf (W := 0) (rmB3 l Z a0 hw [] b458 xa458 ya458 kx458 ky458 d471 (8 * (p1.toInt + g1.toInt + g2.toInt + eu.toInt)) d379 d374 d380 d376 d381 d378 (8 * (p1).toInt) (2 * k0.toInt) (8 * (p1.toInt + g1.toInt)) (2 * k1.toInt) (8 * (p1.toInt + g1.toInt + g2.toInt)) (2 * k2.toInt) T458.heap n0 z460 D471 D379 D374 D380 D376 D381 D378 Fx458 Fy458 Vx458 Vy458 (by omega) (by omega)) hZ (hw _ (List.mem_of_getElem? (i := 24) rfl)) (hw _ (List.mem_of_getElem? (i := 6) rfl)) (by decide) (by decide)) q472a q472c (g := (mkF m 502 #[.val (.int p1), .val (.int p2), .val (.int p3), .val (.int p4), .val (.int p5), .val (.int p6), .val (.int g1), .val (.int g2), .val (.int (3 : Int32)), .val (.int k0), .val (.int k1), .val (.int k2), .val (.double d374), .second, .val (.double d376), .second, .val (.double d378), .second, .val (.double d379), .second, .val (.double d380), .second, .val (.double d381), .second, .val (.double d382), .second, .val (.long (eu.toInt64)), .second, .val (.double d432), .second, .val (.double d435), .second, .val (.ref b458)] [(.double d471), (.ref b458)])) rfl (by rw [hml]; rfl) (Steps.refl _) (argsL := [(.double d471)]) (rest := []) (lenOf pd__D_D rfl) rfl (by show 2 * 0 + _ ≤ _; exact Nat.le_of_eq rfl) (hb hby at_502) (fun _ _ => ⟨rfl, hh470, (by decide : 4 + 0 ≤ _), (by decide : 14 + 0 ≤ _)⟩)
    dsimp only [Pt.U, Pt.locs, Pt.cells, Pt.slots] at X472 l472 y472 z472 st472 hQ472
    subst l472 y472 z472
    obtain ⟨⟨w472, rfl, hw472⟩, N472q, hh472⟩ := hQ472
    have N472 := Fr.app N470 N472q
    refine own_go (fun t k => st472.trans k) ?_
    show own_G p.tables e below s _ _ _ (T472.setTop (mkF m 505 #[.val (.int p1), .val (.int p2), .val (.int p3), .val (.int p4), .val (.int p5), .val (.int p6), .val (.int g1), .val (.int g2), .val (.int (3 : Int32)), .val (.int k0), .val (.int k1), .val (.int k2), .val (.double d374), .second, .val (.double d376), .second, .val (.double d378), .second, .val (.double d379), .second, .val (.double d380), .second, .val (.double d381), .second, .val (.double d382), .second, .val (.long (eu.toInt64)), .second, .val (.double d432), .second, .val (.double d435), .second, .val (.ref b458)] [(.double w472)]))
    refine own_go (fun t k => XS.dload X472.here hx rfl (hb hby at_505) rfl k) ?_
    show own_G p.tables e below s _ _ _ (T472.setTop (mkF m 507 #[.val (.int p1), .val (.int p2), .val (.int p3), .val (.int p4), .val (.int p5), .val (.int p6), .val (.int g1), .val (.int g2), .val (.int (3 : Int32)), .val (.int k0), .val (.int k1), .val (.int k2), .val (.double d374), .second, .val (.double d376), .second, .val (.double d378), .second, .val (.double d379), .second, .val (.double d380), .second, .val (.double d381), .second, .val (.double d382), .second, .val (.long (eu.toInt64)), .second, .val (.double d432), .second, .val (.double d435), .second, .val (.ref b458)] [(.double d378), (.double w472)]))
    refine own_go (fun t k => XS.dcmpS X472.here hx rfl (hb hby at_507) rfl (own_cmpv hw472 D378) k) ?_
    show own_G p.tables e below s _ _ _ (T472.setTop (mkF m 508 #[.val (.int p1), .val (.int p2), .val (.int p3), .val (.int p4), .val (.int p5), .val (.int p6), .val (.int g1), .val (.int g2), .val (.int (3 : Int32)), .val (.int k0), .val (.int k1), .val (.int k2), .val (.double d374), .second, .val (.double d376), .second, .val (.double d378), .second, .val (.double d379), .second, .val (.double d380), .second, .val (.double d381), .second, .val (.double d382), .second, .val (.long (eu.toInt64)), .second, .val (.double d432), .second, .val (.double d435), .second, .val (.ref b458)] [(.int (own_c (2 * k2.toInt) (2 * k2.toInt)))]))
    refine own_go (fun t k => XS.ifNo X472.here hx rfl (hb hby at_508) rfl (Jvm.Free.XT.i0_ne_f (own_c_eq (by omega))) k) ?_
    show own_G p.tables e below s _ _ _ (T472.setTop (mkF m 511 #[.val (.int p1), .val (.int p2), .val (.int p3), .val (.int p4), .val (.int p5), .val (.int p6), .val (.int g1), .val (.int g2), .val (.int (3 : Int32)), .val (.int k0), .val (.int k1), .val (.int k2), .val (.double d374), .second, .val (.double d376), .second, .val (.double d378), .second, .val (.double d379), .second, .val (.double d380), .second, .val (.double d381), .second, .val (.double d382), .second, .val (.long (eu.toInt64)), .second, .val (.double d432), .second, .val (.double d435), .second, .val (.ref b458)] []))
    refine own_go (fun t k => XS.iconst X472.here hx rfl (hb hby at_511) k) ?_
    show own_G p.tables e below s _ _ _ (T472.setTop (mkF m 512 #[.val (.int p1), .val (.int p2), .val (.int p3), .val (.int p4), .val (.int p5), .val (.int p6), .val (.int g1), .val (.int g2), .val (.int (3 : Int32)), .val (.int k0), .val (.int k1), .val (.int k2), .val (.double d374), .second, .val (.double d376), .second, .val (.double d378), .second, .val (.double d379), .second, .val (.double d380), .second, .val (.double d381), .second, .val (.double d382), .second, .val (.long (eu.toInt64)), .second, .val (.double d432), .second, .val (.double d435), .second, .val (.ref b458)] [(.int (1 : Int32))]))
    refine own_go (fun t k => XS.goto X472.here hx rfl (pc0 := 512) (pc' := 516) rfl (hb hby at_512) (by decide) (by decide) k) ?_
    show own_G p.tables e below s _ _ _ (T472.setTop (mkF m 516 #[.val (.int p1), .val (.int p2), .val (.int p3), .val (.int p4), .val (.int p5), .val (.int p6), .val (.int g1), .val (.int g2), .val (.int (3 : Int32)), .val (.int k0), .val (.int k1), .val (.int k2), .val (.double d374), .second, .val (.double d376), .second, .val (.double d378), .second, .val (.double d379), .second, .val (.double d380), .second, .val (.double d381), .second, .val (.double d382), .second, .val (.long (eu.toInt64)), .second, .val (.double d432), .second, .val (.double d435), .second, .val (.ref b458)] [(.int (1 : Int32))]))
    exact own_retN X472 hx hlk (t := .boolean) (z' := (1 : Int32)) Bd.returns (by simp) (hb hby at_516) (rfl) (by rw [hh472]; exact ⟨rfl, N472⟩) (by decide) (by decide)
set_option maxRecDepth 65536 in
set_option maxHeartbeats 40000000 in
theorem comes_1 {Post : Tables → Env → Array Value → State → Outcome → State → Prop} (hpost : ∀ tb e args s v u, (limb_1_1.after args s (.returned v) u = true ∧ limb_1_2.after args s (.returned v) u = true ∧ True) → FrameEnd s (.returned v) u (Jvm.fieldLocs frame_1_writes args s ++ Jvm.arrayLocs frame_1_arrays args s ++ Jvm.staticLocs frame_1_statics s) 16 128 → Post tb e args s (.returned v) u) :
    ArmFor flags0 classFile x code maxLocals ret World_1 tables_1 room_1 Calls_1 rest_1 Pre_1 Post := by
  intro l hfl _ _ p e ha hc hk s m args below hf hA hF happ hP
  obtain ⟨hcalls, hrest, hpre⟩ := hP
  obtain ⟨-, -, -, hnamed, -, -, -, hat⟩ := (Spec.applies_iff hf).mp happ
  obtain ⟨hg, hn⟩ := and_e (Cond.before_iff.mp (show (Jvm.Cond.and given_1 narrow_1).before args s = true from hpre))
  obtain ⟨gc, g0'⟩ := and_e hg
  obtain ⟨ga0, g1'⟩ := and_e g0'
  obtain ⟨ga1, g2'⟩ := and_e g1'
  obtain ⟨ga2, g3'⟩ := and_e g2'
  obtain ⟨ga3, g4'⟩ := and_e g3'
  obtain ⟨ga4, g5'⟩ := and_e g4'
  have ga5 := g5'
  obtain ⟨w0, w1, w2, w3, w4, w5, rfl⟩ : ∃ w0 w1 w2 w3 w4 w5 : Value, args = #[w0, w1, w2, w3, w4, w5] := by
    have hs : args.size = 6 := by simpa [Cond.value, given_1] using gc
    obtain ⟨L⟩ := args
    match L, hs with
    | [w0, w1, w2, w3, w4, w5], _ => exact ⟨w0, w1, w2, w3, w4, w5, rfl⟩
  have hw := fun d (hd : d ∈ tables_1) => atoms_spec (ws := Jvm.Cond.code x code maxLocals ret :: tables_1) hat d (List.mem_cons_of_mem _ hd)
  have hfit : Fit s := fun {y c} hc i hi => by
    obtain ⟨ha, rfl⟩ := Array.getElem?_eq_some_iff.mp hc
    have q := List.all_eq_true.mp ((Array.all_eq_true_iff_forall_mem.mp hF) _ (Array.getElem_mem ha)) i (List.mem_range.mpr hi)
    simpa [Array.getElem?_eq_getElem hi] using q
  obtain ⟨i0, ei0⟩ := is_v ga0
  obtain rfl : w0 = (.int i0) := Option.some.inj ei0
  obtain ⟨i1, ei1⟩ := is_v ga1
  obtain rfl : w1 = (.int i1) := Option.some.inj ei1
  obtain ⟨i2, ei2⟩ := is_v ga2
  obtain rfl : w2 = (.int i2) := Option.some.inj ei2
  obtain ⟨i3, ei3⟩ := is_v ga3
  obtain rfl : w3 = (.int i3) := Option.some.inj ei3
  obtain ⟨i4, ei4⟩ := is_v ga4
  obtain rfl : w4 = (.int i4) := Option.some.inj ei4
  obtain ⟨i5, ei5⟩ := is_v ga5
  obtain rfl : w5 = (.int i5) := Option.some.inj ei5
  obtain ⟨n, o, h1, h2, h3, _, L, rfl, ⟨rfl, N⟩, hq⟩ := rm0 l s _ hw tables_1 i0 i1 i2 i3 i4 i5 s.heap s.heap.size (Nat.le_refl _) p e ha hc hk s m _ below hf ((Spec.applies_iff_loose hf).mp happ).1 ⟨rfl, State.Warmed39.refl s, rfl⟩ trivial
  refine ⟨n, _, h1, h2, h3, hpost _ _ _ _ _ _ ⟨Cond.after_iff.mpr rfl, Cond.after_iff.mpr (eq_i res_at (Term.int_eval (1)) rfl), trivial⟩ ⟨hq.1, hq.2.1, (hq.2.2.sift fun y hy => Or.inr (N y hy)).mono (by decide) (by decide)⟩⟩
theorem main_1_1 : Claimed_1_1 := comes_1 fun _ _ _ _ _ _ h hF => ⟨h.1, hF⟩
theorem main_1_2 : Claimed_1_2 := comes_1 fun _ _ _ _ _ _ h hF => ⟨h.2.1, hF⟩
end Jvm.Pilot.@@N@@
namespace Jvm.Pilot.@@N@@
open Jvm Jvm.ClassFile Sem Op Lib Jvm.Free Jvm.Stand Jvm.Pilot.@@N@@.Jvm.D
/-! MADE BY PROGRAM (witnessworld.py) out of the Statement's table words and the real class files: 11 classes; the members and pool entries that the words name. The judged class is class 1, her method 1. -/
namespace start1
open Jvm.ClassFile
def u (s : String) : CpInfo := .utf8 (stringToUtf16 s)
/-- a pool by its gaps: so many unusable entries, then the entry; so many at the end -/
def gap : Nat → List CpInfo → List CpInfo
  | 0, r => r
  | n + 1, r => .unusable :: gap n r
def poolList (es : List (Nat × CpInfo)) (last : Nat) : List CpInfo := es.foldr (fun e r => gap e.1 (e.2 :: r)) (gap last [])
def pool (es : List (Nat × CpInfo)) (last : Nat) : Array CpInfo := ⟨poolList es last⟩
def fileOf (pool : Array CpInfo) (this : Nat) (attrs : Array Attribute := #[]) (ms : Array MethodInfo := #[]) (fl : Nat := 33) (sup : Nat := 0) (ifs : Array Nat := #[]) (fds : Array FieldInfo := #[]) : ClassFile where
  minorVersion := 0
  majorVersion := 65
  constantPool := pool
  accessFlags := fl
  thisClass := this
  superClass := sup
  interfaces := ifs
  fields := fds
  methods := ms
  attributes := attrs
def plain (name : String) (sup : Option ClassId) : Class where
  name := name
  kind := .ordinary
  loader := none
  accessFlags := 33
  super := sup
  interfaces := #[]
  cf := none
  fields := #[]
  methods := #[]
  instanceTypes := #[]
  staticTypes := #[]
  resolved := #[]
  callSites := []
  init := .initialized
  statics := none
  mirror := none

def pool0 : Array CpInfo := pool [(5, u "<init>"), (0, u "()V"), (1, .class_ 10), (1, u "java/lang/Object")] 113

def k0c0 : Code := { maxStack := 0, maxLocals := 1, code := object_method_1_code, exceptionTable := #[], attributes := #[] }
def k0m0 : Method := { name := "<init>", desc := "()V", sig := { parameters := [], returnType := none }, accessFlags := 1, code := some k0c0 }
/-- java/lang/Object -/
def k0 : Class := { plain "java/lang/Object" none with
  accessFlags := 33
  interfaces := #[]
  cf := some (fileOf pool0 8 #[] #[{ accessFlags := 1, nameIndex := 5, descriptorIndex := 6, attributes := #[] }] 33 0 #[] #[])
  fields := #[]
  methods := #[k0m0]
  instanceTypes := #[]
  staticTypes := #[]
  resolved := Array.replicate 124 none
  statics := none }

def pool1 : Array CpInfo := pool [(2, .class_ 4), (1, u "java/lang/Object"), (0, u "<init>"), (0, u "()V"), (0, .integer 65535), (0, .integer 2147483647), (0, .double 4616189618054758400), (1, .methodref 12 13), (0, .class_ 14), (0, .nameAndType 15 16), (0, u "com/example/options_into_arguments/optionsintoarguments/quality/Curve"), (0, u "through"), (0, u "([D)Lcom/example/options_into_arguments/optionsintoarguments/quality/Curve;"), (0, .methodref 12 18), (0, .nameAndType 19 20), (0, u "at"), (0, u "(D)D"), (0, .double 4611686018427387904), (1, .double 4620693217682128896), (1, .class_ 26), (0, u "com/example/options_into_arguments/optionsintoarguments/quality/CurveThroughPinLaw"), (2, u "law"), (0, u "(IIIIII)Z")] 3

def k1m0 : Method := { name := "<init>", desc := "()V", sig := { parameters := [], returnType := none }, accessFlags := 1, code := none }
def k1c1 : Code := { maxStack := 6, maxLocals := 33, code := code, exceptionTable := #[], attributes := #[] }
def k1m1 : Method := { name := "law", desc := "(IIIIII)Z", sig := { parameters := [.int, .int, .int, .int, .int, .int], returnType := some .boolean }, accessFlags := 9, code := some k1c1 }
/-- com/example/options_into_arguments/optionsintoarguments/quality/CurveThroughPinLaw -/
def k1 : Class := { plain "com/example/options_into_arguments/optionsintoarguments/quality/CurveThroughPinLaw" (some 0) with
  accessFlags := 49
  interfaces := #[]
  cf := some (fileOf pool1 25 #[] #[{ accessFlags := 1, nameIndex := 5, descriptorIndex := 6, attributes := #[] }, { accessFlags := 9, nameIndex := 29, descriptorIndex := 30, attributes := #[] }] 49 2 #[] #[])
  fields := #[]
  methods := #[k1m0, k1m1]
  instanceTypes := #[]
  staticTypes := #[]
  resolved := Array.replicate 34 none
  statics := none }

def pool2 : Array CpInfo := pool [(1, .methodref 2 3), (0, .class_ 4), (0, .nameAndType 5 6), (0, u "java/lang/Object"), (0, u "<init>"), (0, u "()V"), (0, .fieldref 8 9), (0, .class_ 10), (0, .nameAndType 11 12), (0, u "com/example/options_into_arguments/optionsintoarguments/quality/Curve"), (0, u "xs"), (0, u "[D"), (0, .fieldref 8 14), (0, .nameAndType 15 12), (0, u "ys"), (16, .methodref 8 33), (0, .nameAndType 5 34), (0, u "([D[D)V"), (2, u "through"), (0, u "([D)Lcom/example/options_into_arguments/optionsintoarguments/quality/Curve;"), (2, u "at"), (0, u "(D)D")] 19

def k2c0 : Code := { maxStack := 2, maxLocals := 3, code := prog_17_method_1_code, exceptionTable := #[], attributes := #[] }
def k2m0 : Method := { name := "<init>", desc := "([D[D)V", sig := { parameters := [(.array .double), (.array .double)], returnType := none }, accessFlags := 2, code := some k2c0 }
def k2c1 : Code := { maxStack := 5, maxLocals := 4, code := prog_17_method_2_code, exceptionTable := #[], attributes := #[] }
def k2m1 : Method := { name := "through", desc := "([D)Lcom/example/options_into_arguments/optionsintoarguments/quality/Curve;", sig := { parameters := [(.array .double)], returnType := some (.object "com/example/options_into_arguments/optionsintoarguments/quality/Curve") }, accessFlags := 136, code := some k2c1 }
def k2c2 : Code := { maxStack := 9, maxLocals := 7, code := prog_17_method_3_code, exceptionTable := #[], attributes := #[] }
def k2m2 : Method := { name := "at", desc := "(D)D", sig := { parameters := [.double], returnType := some .double }, accessFlags := 0, code := some k2c2 }
/-- com/example/options_into_arguments/optionsintoarguments/quality/Curve -/
def k2 : Class := { plain "com/example/options_into_arguments/optionsintoarguments/quality/Curve" (some 0) with
  accessFlags := 32
  interfaces := #[]
  cf := some (fileOf pool2 8 #[] #[{ accessFlags := 2, nameIndex := 5, descriptorIndex := 34, attributes := #[] }, { accessFlags := 136, nameIndex := 37, descriptorIndex := 38, attributes := #[] }, { accessFlags := 0, nameIndex := 41, descriptorIndex := 42, attributes := #[] }] 32 2 #[] #[{ accessFlags := 18, nameIndex := 11, descriptorIndex := 12, attributes := #[] }, { accessFlags := 18, nameIndex := 15, descriptorIndex := 12, attributes := #[] }])
  fields := #[{ name := "xs", type := (.array .double), accessFlags := 18, slot := 0, constantValue := 0 }, { name := "ys", type := (.array .double), accessFlags := 18, slot := 1, constantValue := 0 }]
  methods := #[k2m0, k2m1, k2m2]
  instanceTypes := #[(.array .double), (.array .double)]
  staticTypes := #[]
  resolved := Array.replicate 62 none
  statics := none }

def pool3 : Array CpInfo := pool [(1, u "java/lang/Cloneable"), (0, .class_ 1), (0, u "java/lang/Object"), (0, .class_ 3)] 3

/-- java/lang/Cloneable -/
def k3 : Class := { plain "java/lang/Cloneable" (some 0) with
  accessFlags := 1537
  interfaces := #[]
  cf := some (fileOf pool3 2 #[] #[] 1537 4 #[] #[])
  fields := #[]
  methods := #[]
  instanceTypes := #[]
  staticTypes := #[]
  resolved := Array.replicate 8 none
  statics := none }

def pool4 : Array CpInfo := pool [(1, u "java/io/Serializable"), (0, .class_ 1), (0, u "java/lang/Object"), (0, .class_ 3)] 3

/-- java/io/Serializable -/
def k4 : Class := { plain "java/io/Serializable" (some 0) with
  accessFlags := 1537
  interfaces := #[]
  cf := some (fileOf pool4 2 #[] #[] 1537 4 #[] #[])
  fields := #[]
  methods := #[]
  instanceTypes := #[]
  staticTypes := #[]
  resolved := Array.replicate 8 none
  statics := none }

/-- the primitive byte -/
def k5 : Class := { plain "byte" none with kind := .primitive 'B', accessFlags := 0x411 }
/-- [B -/
def k6 : Class := { plain "[B" (some 0) with kind := .array 5 .byte, interfaces := #[3, 4], accessFlags := 1041 }

/-- the primitive double -/
def k7 : Class := { plain "double" none with kind := .primitive 'D', accessFlags := 0x411 }
/-- [D -/
def k8 : Class := { plain "[D" (some 0) with kind := .array 7 .double, interfaces := #[3, 4], accessFlags := 1041 }

/-- the primitive int -/
def k9 : Class := { plain "int" none with kind := .primitive 'I', accessFlags := 0x411 }
/-- [I -/
def k10 : Class := { plain "[I" (some 0) with kind := .array 9 .int, interfaces := #[3, 4], accessFlags := 1041 }

def heap : Heap := #[]
def classes : Array Class := #[k0, k1, k2, k3, k4, k5, k6, k7, k8, k9, k10]
def interned : List (Array UInt16 × Addr) := []
def slotsUsed : Nat := 0
def theMethod : MethodId := ⟨1, 1⟩
def args0 : Array Value := #[.int 0, .int 1, .int 2, .int 3, .int 4, .int 5]
def aboutOver (below : List Frame) : State where
  vm := { classes := classes, interned := interned.toArray }
  heap := heap
  slotsUsed := slotsUsed
  threads := #[{ frames := .invoking theMethod args0 :: below }]
def below0 : List Frame := [.native { method := ⟨0, 0⟩, args := #[] }]
def about1 : State := aboutOver below0
def p0 : Program := .bare "" "" ""
def e0 : Env := launch0.env 0 0 0
theorem w_frames : about1.frames = Frame.invoking theMethod args0 :: below0 := rfl
set_option maxRecDepth 65536 in
theorem w_args : argsFit about1.vm theMethod args0 = true := by decide +kernel
set_option maxRecDepth 65536 in
theorem w_heap : heapFits about1 = true := by decide +kernel
set_option maxRecDepth 65536 in
theorem w_runnable : about1.curStatus? = some .runnable := by decide +kernel
set_option maxRecDepth 65536 in
theorem w_alone : about1.alone = true := by decide +kernel
set_option maxRecDepth 65536 in
theorem w_named : about1.methodNamed? x = some theMethod := by decide +kernel
set_option maxRecDepth 65536 in
theorem w_hears : about1.hears theMethod below0 = true := by decide +kernel
set_option maxRecDepth 65536 in
theorem w_ripe : about1.ripe theMethod args0 below0 = true := by decide +kernel
theorem w_running : about1.status = .running := rfl
set_option maxRecDepth 65536 in
theorem w_room : about1.hasRoom e0.platform room_1 = true :=
  launch0.hasRoom_least _ room_1 (by decide +kernel) (by decide +kernel) (by decide +kernel) (by decide +kernel) (by decide +kernel) (by decide +kernel)
theorem allAtoms_all (ts : List Jvm.Cond) (a : Array Jvm.Value) (st : Jvm.State) : (allAtoms ts).before a st = ts.all (fun c => c.before a st) := by
  induction ts with
  | nil => rfl
  | cons c t ih =>
    show (Jvm.Cond.and c (allAtoms t)).before a st = _
    rw [Jvm.Cond.before_and, ih, List.all_cons]
def words1 : List Jvm.Cond := Jvm.Cond.code x code maxLocals ret :: tables_1
/-- a 'code' word, met by the world's own term for the bytes: nothing is compared byte by byte -/
theorem code_word {y : MethodName} {bytes : ByteArray} {mx : Nat} {rt : Option FieldType} {a : Array Value} {s : State} {m : MethodId} {meth : Method} {c : Code} (h1 : s.methodNamed? y = some m) (h2 : s.vm.method? m = some meth) (h3 : meth.code = some c) (h4 : c.code = bytes)
    (h5 : (c.maxLocals == mx && c.exceptionTable.isEmpty && decide (c.maxStack ≤ mostOperands) && decide (meth.sig.returnType = rt) && !meth.locks && decide (parseMethodDescriptor y.desc = some meth.sig)) = true) : (Jvm.Cond.code y bytes mx rt).before a s = true := by
  simp only [Bool.and_eq_true, beq_iff_eq, Bool.not_eq_true', decide_eq_true_eq] at h5
  obtain ⟨⟨⟨⟨⟨g1, g2⟩, g3⟩, g4⟩, g5⟩, g6⟩ := h5
  simp [Cond.before, Cond.holds, Cond.value, h1, h2, h3, h4, g1, g2, g3, g4, g5, g6]
def isCode : Jvm.Cond → Bool
  | .code _ _ _ _ => true
  | _ => false
theorem all_split {L : List Jvm.Cond} {P : Jvm.Cond → Bool} (h1 : L.all (fun c => isCode c || P c) = true) (h2 : ∀ c ∈ L.filter isCode, P c = true) : L.all P = true := by
  refine List.all_eq_true.mpr fun c hc => ?_
  have h := List.all_eq_true.mp h1 c hc
  rcases Bool.eq_false_or_eq_true (isCode c) with hi | hi
  · exact h2 c (List.mem_filter.mpr ⟨hc, hi⟩)
  · simpa [hi] using h
set_option maxRecDepth 65536 in
theorem w_c0 : (Jvm.Cond.code x code maxLocals ret).before args0 about1 = true := code_word (m := ⟨1, 1⟩) (meth := k1m1) (c := k1c1) (by decide +kernel) rfl rfl rfl (by decide +kernel)
set_option maxRecDepth 65536 in
theorem w_c1 : (Jvm.Cond.code ({ cls := "com/example/options_into_arguments/optionsintoarguments/quality/Curve", name := "through", desc := "([D)Lcom/example/options_into_arguments/optionsintoarguments/quality/Curve;" } : Jvm.MethodName) prog_17_method_2_code (4 : Nat) (Option.some (Jvm.ClassFile.FieldType.object "com/example/options_into_arguments/optionsintoarguments/quality/Curve"))).before args0 about1 = true := code_word (m := ⟨2, 1⟩) (meth := k2m1) (c := k2c1) (by decide +kernel) rfl rfl rfl (by decide +kernel)
set_option maxRecDepth 65536 in
theorem w_c2 : (Jvm.Cond.code ({ cls := "com/example/options_into_arguments/optionsintoarguments/quality/Curve", name := "<init>", desc := "([D[D)V" } : Jvm.MethodName) prog_17_method_1_code (3 : Nat) (Option.none : Option Jvm.ClassFile.FieldType)).before args0 about1 = true := code_word (m := ⟨2, 0⟩) (meth := k2m0) (c := k2c0) (by decide +kernel) rfl rfl rfl (by decide +kernel)
set_option maxRecDepth 65536 in
theorem w_c3 : (Jvm.Cond.code ({ cls := "java/lang/Object", name := "<init>", desc := "()V" } : Jvm.MethodName) object_method_1_code (1 : Nat) (Option.none : Option Jvm.ClassFile.FieldType)).before args0 about1 = true := code_word (m := ⟨0, 0⟩) (meth := k0m0) (c := k0c0) (by decide +kernel) rfl rfl rfl (by decide +kernel)
set_option maxRecDepth 65536 in
theorem w_c4 : (Jvm.Cond.code ({ cls := "com/example/options_into_arguments/optionsintoarguments/quality/Curve", name := "at", desc := "(D)D" } : Jvm.MethodName) prog_17_method_3_code (7 : Nat) (Option.some Jvm.ClassFile.FieldType.double)).before args0 about1 = true := code_word (m := ⟨2, 2⟩) (meth := k2m2) (c := k2c2) (by decide +kernel) rfl rfl rfl (by decide +kernel)
def codes1 : List Jvm.Cond := [Jvm.Cond.code x code maxLocals ret, Jvm.Cond.code ({ cls := "com/example/options_into_arguments/optionsintoarguments/quality/Curve", name := "through", desc := "([D)Lcom/example/options_into_arguments/optionsintoarguments/quality/Curve;" } : Jvm.MethodName) prog_17_method_2_code (4 : Nat) (Option.some (Jvm.ClassFile.FieldType.object "com/example/options_into_arguments/optionsintoarguments/quality/Curve")), Jvm.Cond.code ({ cls := "com/example/options_into_arguments/optionsintoarguments/quality/Curve", name := "<init>", desc := "([D[D)V" } : Jvm.MethodName) prog_17_method_1_code (3 : Nat) (Option.none : Option Jvm.ClassFile.FieldType), Jvm.Cond.code ({ cls := "java/lang/Object", name := "<init>", desc := "()V" } : Jvm.MethodName) object_method_1_code (1 : Nat) (Option.none : Option Jvm.ClassFile.FieldType), Jvm.Cond.code ({ cls := "com/example/options_into_arguments/optionsintoarguments/quality/Curve", name := "at", desc := "(D)D" } : Jvm.MethodName) prog_17_method_3_code (7 : Nat) (Option.some Jvm.ClassFile.FieldType.double)]
set_option maxRecDepth 65536 in
theorem codes_eq : words1.filter isCode = codes1 := rfl
theorem w_codes : ∀ c ∈ words1.filter isCode, c.before args0 about1 = true := by
  rw [codes_eq]
  intro c hc
  simp only [codes1, List.mem_cons, List.not_mem_nil, or_false] at hc
  rcases hc with rfl | rfl | rfl | rfl | rfl
  · exact w_c0
  · exact w_c1
  · exact w_c2
  · exact w_c3
  · exact w_c4
set_option maxRecDepth 65536 in
theorem w_t1 : (words1.take 24).all (fun c => isCode c || c.before args0 about1) = true := by decide +kernel
set_option maxRecDepth 65536 in
theorem w_t2 : (words1.drop 24).all (fun c => isCode c || c.before args0 about1) = true := by decide +kernel
theorem w_tables : (allAtoms (Jvm.Cond.code x code maxLocals ret :: tables_1)).before args0 about1 = true := by
  rw [allAtoms_all]
  show words1.all (fun c => c.before args0 about1) = true
  refine all_split ?_ w_codes
  rw [← List.take_append_drop 24 words1, List.all_append, w_t1, w_t2]
  rfl
set_option maxRecDepth 65536 in
theorem w_case : (Jvm.Cond.and given_1 narrow_1).before args0 about1 = true := by decide +kernel
theorem w_applies : (headSpec (Jvm.Cond.code x code maxLocals ret :: tables_1) room_1).applies x e0.platform about1 = true :=
  (Spec.applies_iff w_frames).mpr ⟨w_running, w_runnable, w_alone, w_named, w_hears, w_ripe, w_room, w_tables⟩
theorem atStart : AtStart classFile x code maxLocals ret World_1 tables_1 room_1 Calls_1 rest_1 Pre_1 launch0 p0 e0 about1 theMethod args0 below0 :=
  ⟨lists_1, trivial, launch0.admits_env _ _ _, launch0.least_env, fairChoices_fair.cas, fairChoices_fair.clock, w_frames, w_args, w_heap, w_applies, trivial, trivial, w_case⟩
end start1
theorem witness_1 : WitnessClaimed_1 := ⟨start1.p0, start1.e0, start1.about1, start1.theMethod, start1.args0, start1.below0, start1.atStart⟩
end Jvm.Pilot.@@N@@
