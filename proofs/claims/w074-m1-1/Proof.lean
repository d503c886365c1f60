import JvmDerived
import JvmDerived.Pilot.@@N@@Statement
import JvmDerived.Pilot.@@N@@Code
set_option linter.unusedVariables false
set_option linter.unusedSimpArgs false
namespace Jvm.RoadKit
open Sem ClassFile Op Lib Jvm.Stand Jvm.Free Jvm.LawKit
section New
variable {p : Program} {l : Launch} {e : Env} {R : Room} {s : State} {m : MethodId} {args : Array Value} {below : List Frame} {meth : Method} {c : Code} {T : State} {locs : List Loc} {cells slots : Nat}
theorem retI (X : Stand p l e R s m args below meth c T locs cells slots) (hx : p.tables.exec = Jvm.exec) {pc : Nat} {Ls : Array Slot} {z : Int32} {rest : List Value} (hret : meth.sig.returnType = some .int) (hd : decode c.code pc = .ok (.ireturn, 1)) {fs : List Frame}
    (hl : ∀ (f : JFrame) (acts : List Action), f.method = m → f.locked = none → f.entered = [] → (doReturn e (T.setTop f) acts (some (.int z))).1 = T.setFrames fs) : Steps p.tables e below (T.setTop (mkF m pc Ls (.int z :: rest))) (T.setFrames fs) := by
  have hm' : T.vm.method? m = some meth := X.method'
  have hn : narrow .int (.int z) = .int z := rfl
  show Steps p.tables e below (T.setTop { method := m, pc := pc, locals := Ls, stack := _ :: rest, locked := none }) _
  jvm_step X.here [X.here.top, hx, hd, hm', hret, hn]
  first | (intro acts; rw [hl _ acts rfl rfl rfl]) | rw [hl _ _ rfl rfl rfl]
  exact Steps.refl _
end New
end Jvm.RoadKit
namespace Jvm.Pilot.@@N@@
open Jvm Jvm.ClassFile Sem Op Lib Jvm.Free Jvm.Stand Jvm.LawKit Jvm.RoadKit Bundle Jvm.Pilot.@@N@@.Jvm.D
/-- two slots that hold nothing, or one double or long -/
def own_Two (s t : Slot) : Prop := (s = .unset ∧ t = .unset) ∨ (∃ d, s = .val (.double d) ∧ t = .second) ∨ ∃ d, s = .val (.long d) ∧ t = .second
theorem own_pad {p : Program} {l : Launch} {e : Env} {R : Room} {s : State} {m : MethodId} {args : Array Value} {below : List Frame} {meth : Method} {c : Code} {T : State} {locs : List Loc} {k n k' n' : Nat} (X : Stand p l e R s m args below meth c T locs k n) (hk : k ≤ k') (hn : n ≤ n') : Stand p l e R s m args below meth c T locs k' n' := { X with same := X.same.mono hk hn }
/-- the walk from S on comes to an end of which Q is true -/
def own_End (p : Program) (e : Env) (below : List Frame) (Q : Outcome → State → Prop) (S : State) : Prop := ∃ s₂ o, Steps p.tables e below S s₂ ∧ s₂.status = .running ∧ Ended s₂ below o ∧ Q o s₂
theorem own_go {p : Program} {e : Env} {below : List Frame} {Q : Outcome → State → Prop} {S S' : State} (h : ∀ t, Steps p.tables e below S' t → Steps p.tables e below S t) (k : own_End p e below Q S') : own_End p e below Q S := by
  obtain ⟨s₂, o, h1, h2⟩ := k
  exact ⟨s₂, o, h s₂ h1, h2⟩
/-- an array of z places, of which the j-th holds f j -/
def own_Ar (Z : State) (h : Heap) (a : Addr) (ty : FieldType) (z : Int32) (f : Nat → Value) : Prop := ∃ cl : Cell, Arr Z h a cl ty ∧ cl.slots.size = z.toNatClampNeg ∧ ¬ z < 0 ∧ ∀ j, j < z.toNatClampNeg → cl.slots[j]? = some (f j)
section OwnAr
variable {Z : State} {h h' : Heap} {a b : Addr} {ty : FieldType} {z : Int32} {f g : Nat → Value} {ws : List Addr} {sl : Nat} {v : Value}
theorem own_Ar.lt (F : own_Ar Z h a ty z f) : a < h.size := by obtain ⟨c, A, -⟩ := F; exact A.lt
theorem own_Ar.ext (F : own_Ar Z h a ty z f) (E : Ext h h') : own_Ar Z h' a ty z f := by obtain ⟨c, A, r⟩ := F; exact ⟨c, A.ext E, r⟩
theorem own_Ar.other (F : own_Ar Z h b ty z f) (W : Wr h h' a sl v) (q : b ≠ a) : own_Ar Z h' b ty z f := by obtain ⟨c, A, r⟩ := F; exact ⟨c, A.other W q, r⟩
theorem own_Ar.keep (F : own_Ar Z h a ty z f) (K : Keep h h' ws) (q : a ∉ ws) : own_Ar Z h' a ty z f := by obtain ⟨c, A, r⟩ := F; exact ⟨c, ⟨K.2.1 a c A.1 q, A.2⟩, r⟩
theorem own_Ar.turn (F : own_Ar Z h a ty z f) (q : ∀ j, j < z.toNatClampNeg → f j = g j) : own_Ar Z h a ty z g := by obtain ⟨c, A, r1, r2, r3⟩ := F; exact ⟨c, A, r1, r2, fun j hj => by rw [r3 j hj, q j hj]⟩
theorem own_Ar.new {k : ClassId} (A : Arr Z h a (newA k ty z) ty) (q : ¬ z < 0) : own_Ar Z h a ty z (fun _ => defaultValue ty) := ⟨_, A, sz_new _ _ _, q, fun j hj => by simp [newA, hj]⟩
theorem own_Ar_set {c : Cell} (A : Arr Z h a c ty) (S : c.slots.size = z.toNatClampNeg) (M : ¬ z < 0) (H : ∀ j, j < z.toNatClampNeg → c.slots[j]? = some (f j)) (W : Wr h h' a sl v) : own_Ar Z h' a ty z (fun j => if j = sl then v else f j) := by
  refine ⟨_, A.same W, (sz_set _ _ _).trans S, M, fun j hj => ?_⟩
  show (c.setSlot sl v).slots[j]? = some (if j = sl then v else f j)
  by_cases e : j = sl
  · subst e; simp [Cell.setSlot, S, hj]
  · have e' : ¬ sl = j := fun q => e q.symm
    simp [Cell.setSlot, e, e', Array.getElem?_setIfInBounds, H j hj]
theorem own_in {c : Cell} {z j : Int32} (S : c.slots.size = z.toNatClampNeg) (q : ¬ (j < 0 ∨ c.slots.size ≤ j.toNatClampNeg)) : j.toNatClampNeg < z.toNatClampNeg := by
  rw [← S]; exact Nat.lt_of_not_le fun y => q (Or.inr y)
/-- the same of an array of references, whose class is known -/
def own_Rr (Z : State) (h : Heap) (a : Addr) (C : String) (z : Int32) (f : Nat → Value) : Prop := ∃ cl : Cell, Arr Z h a cl (.object C) ∧ cl.slots.size = z.toNatClampNeg ∧ ¬ z < 0 ∧ (∀ j, j < z.toNatClampNeg → cl.slots[j]? = some (f j)) ∧ Ovr Z cl.cls C
variable {C : String}
theorem own_Rr.lt (F : own_Rr Z h a C z f) : a < h.size := by obtain ⟨c, A, -⟩ := F; exact A.lt
theorem own_Rr.ext (F : own_Rr Z h a C z f) (E : Ext h h') : own_Rr Z h' a C z f := by obtain ⟨c, A, r⟩ := F; exact ⟨c, A.ext E, r⟩
theorem own_Rr.other (F : own_Rr Z h b C z f) (W : Wr h h' a sl v) (q : b ≠ a) : own_Rr Z h' b C z f := by obtain ⟨c, A, r⟩ := F; exact ⟨c, A.other W q, r⟩
theorem own_Rr.keep (F : own_Rr Z h a C z f) (K : Keep h h' ws) (q : a ∉ ws) : own_Rr Z h' a C z f := by obtain ⟨c, A, r⟩ := F; exact ⟨c, ⟨K.2.1 a c A.1 q, A.2⟩, r⟩
theorem own_Rr.turn (F : own_Rr Z h a C z f) (q : ∀ j, j < z.toNatClampNeg → f j = g j) : own_Rr Z h a C z g := by obtain ⟨c, A, r1, r2, r3, r4⟩ := F; exact ⟨c, A, r1, r2, fun j hj => by rw [r3 j hj, q j hj], r4⟩
theorem own_Rr.new {k : ClassId} (A : Arr Z h a (newA k (.object C) z) (.object C)) (O : Ovr Z k C) (q : ¬ z < 0) : own_Rr Z h a C z (fun _ => .null) := ⟨_, A, sz_new _ _ _, q, fun j hj => by simp [newA, hj, defaultValue], O⟩
theorem own_Rr_set {c : Cell} (A : Arr Z h a c (.object C)) (S : c.slots.size = z.toNatClampNeg) (M : ¬ z < 0) (H : ∀ j, j < z.toNatClampNeg → c.slots[j]? = some (f j)) (O : Ovr Z c.cls C) (W : Wr h h' a sl v) : own_Rr Z h' a C z (fun j => if j = sl then v else f j) := by
  refine ⟨_, A.same W, (sz_set _ _ _).trans S, M, fun j hj => ?_, O⟩
  show (c.setSlot sl v).slots[j]? = some (if j = sl then v else f j)
  by_cases e : j = sl
  · subst e; simp [Cell.setSlot, S, hj]
  · have e' : ¬ sl = j := fun q => e q.symm
    simp [Cell.setSlot, e, e', Array.getElem?_setIfInBounds, H j hj]
end OwnAr
/-! quarters: doubles that are a whole number of quarters -/
def own_up : FP.Core.Datum → FP.Core.Datum
  | .fin s c q => .fin s c (q + 2)
  | d => d
def own_Q (i : Int) (a : UInt64) : Prop := FP.Core.Whole i (own_up (FP.Core.val64 a))
theorem own_pw {a b x y z : Nat} (h : a * 2 ^ (x + z) = b * 2 ^ (y + z)) : a * 2 ^ x = b * 2 ^ y := by
  have p : 0 < 2 ^ z := Nat.two_pow_pos z
  rw [Nat.pow_add, Nat.pow_add, ← Nat.mul_assoc, ← Nat.mul_assoc] at h
  exact Nat.eq_of_mul_eq_mul_right p h
theorem own_rnd (s : Bool) {n : Nat} (h : n < 2 ^ 53) : ∃ c q, FP.Core.round FP.Core.b64 (.fin s n (-2)) = .fin s c q ∧ c * 2 ^ (q + 2).toNat = n * 2 ^ (-(q + 2)).toNat := by
  have hf := FP.Core.round_fits FP.Core.good_b64 (.fin s n (-2))
  obtain ⟨c, q, e, u⟩ := FP.Core.round_exact FP.Core.good_b64 s (c := n) (q := -2) (show n < 2 ^ FP.Core.b64.p from h) (by decide) (by decide)
  refine ⟨c, q, e, ?_⟩
  rw [e] at hf
  have hq : FP.Core.b64.qmin ≤ q := hf.2.1
  have hm : FP.Core.b64.qmin = -1074 := by decide
  unfold FP.Core.inUnits at u
  rw [hm] at u hq
  have e2 : ((-2 : Int) - -1074).toNat = 1072 := by decide
  rw [e2] at u
  generalize hA : (q - -1074).toNat = A at u
  rcases Int.le_total 0 (q + 2) with g | g
  · have e3 : (-(q + 2)).toNat = 0 := by omega
    have e4 : A = (q + 2).toNat + 1072 := by omega
    rw [e3]; rw [e4] at u
    exact own_pw (z := 1072) (by rw [u])
  · have e3 : (q + 2).toNat = 0 := by omega
    have e4 : 1072 = (-(q + 2)).toNat + A := by omega
    rw [e3]
    refine own_pw (z := A) ?_
    rw [Nat.zero_add, u]
    exact congrArg (fun t => n * 2 ^ t) e4
theorem own_whole_up {i : Int} {s : Bool} {c : Nat} {q : Int} {n : Nat} (h : c * 2 ^ q.toNat = n * 2 ^ (-q).toNat) (hi : FP.Core.signed s n = i) : FP.Core.Whole i (.fin s c q) := by
  show FP.Core.signed s (c * 2 ^ q.toNat) = i * ((2 ^ (-q).toNat : Nat) : Int)
  rw [h, FP.Core.signed_mul, hi]
theorem own_rnd_up {i : Int} {s : Bool} {n : Nat} (h : n < 2 ^ 53) (hi : FP.Core.signed s n = i) : FP.Core.Whole i (own_up (FP.Core.round FP.Core.b64 (.fin s n (-2)))) := by
  obtain ⟨c, q, e, u⟩ := own_rnd s h
  rw [e]
  exact own_whole_up u hi
theorem own_signed {i : Int} {s : Bool} {c : Nat} {q : Int} (h : FP.Core.Whole i (.fin s c q)) : FP.Core.signed s i.natAbs = i := by
  by_cases h0 : i = 0
  · subst h0; exact FP.Core.signed_zero s
  · rw [FP.Core.whole_sign h h0]
    unfold FP.Core.signed
    by_cases g : i < 0 <;> simp [g] <;> omega
theorem own_rnd_any {i : Int} (hb : i.natAbs < 2 ^ 53) {d : FP.Core.Datum} (h : FP.Core.Whole i (own_up d)) : FP.Core.Whole i (own_up (FP.Core.round FP.Core.b64 d)) := by
  cases d with
  | nan => exact h.elim
  | inf => exact h.elim
  | fin s c q =>
    have h' : FP.Core.Whole i (.fin s c (q + 2)) := h
    have u := FP.Core.whole_natAbs h'
    have e : FP.Core.round FP.Core.b64 (.fin s c q) = FP.Core.round FP.Core.b64 (.fin s i.natAbs (-2)) := by
      show FP.Core.roundRatio FP.Core.b64 s c 1 q = FP.Core.roundRatio FP.Core.b64 s i.natAbs 1 (-2)
      refine FP.Core.roundRatio_congr (by decide) (by decide) ?_
      rw [show (q - -2) = q + 2 by omega, show (-2 - q) = -(q + 2) by omega, Nat.mul_one, Nat.mul_one]
      exact u
    rw [e]
    exact own_rnd_up hb (own_signed h')
theorem own_up_sum {i j : Int} {x y : FP.Core.Datum} (hx : FP.Core.Whole i (own_up x)) (hy : FP.Core.Whole j (own_up y)) : FP.Core.Whole (i + j) (own_up (FP.Core.exactSum x y)) := by
  cases x with
  | nan => exact hx.elim
  | inf => exact hx.elim
  | fin s c q =>
  cases y with
  | nan => exact hy.elim
  | inf => exact hy.elim
  | fin t d r =>
    have h := FP.Core.whole_sum hx hy
    have e : own_up (FP.Core.exactSum (.fin s c q) (.fin t d r)) = FP.Core.exactSum (own_up (.fin s c q)) (own_up (.fin t d r)) := by
      have m : min (q + 2) (r + 2) = min q r + 2 := by omega
      simp only [own_up, FP.Core.exactSum, m, FP.Core.sumUnits, FP.Core.inUnits, show q + 2 - (min q r + 2) = q - min q r by omega, show r + 2 - (min q r + 2) = r - min q r by omega]
    rw [e]; exact h
theorem own_Q_add {i j : Int} {a b : UInt64} (ha : own_Q i a) (hb : own_Q j b) (h : (i + j).natAbs < 2 ^ 53) : own_Q (i + j) (FP.dadd a b) := by
  unfold own_Q
  rw [show FP.dadd a b = FP.Core.dadd a b from rfl, FP.Core.val64_dadd]
  exact own_rnd_any h (own_up_sum ha hb)
theorem own_Q_zero : own_Q 0 (0 : UInt64) := by
  unfold own_Q
  rw [show FP.Core.val64 (0 : UInt64) = .fin false 0 FP.Core.b64.qmin by decide +kernel]
  show FP.Core.signed false (0 * _) = 0 * _
  rw [Nat.zero_mul, Int.zero_mul]; rfl
theorem own_Q_nn {i : Int} {a : UInt64} (h : own_Q i a) : Jvm.Free.Fl.NoNaN64 a := by
  refine Jvm.Free.Fl.noNaN64_no.mpr ?_
  cases e : FP.dIsNaN a with
  | false => exact e
  | true =>
    have : FP.Core.val64 a = .nan := (FP.Core.dIsNaN_iff a).mp e
    unfold own_Q at h
    rw [this] at h
    exact h.elim
theorem own_four : FP.Core.val64 (4616189618054758400 : UInt64) = .fin false (2 ^ 52) (-50) := by decide +kernel
theorem own_Q_div {k : Int64} (hb : k.toInt.natAbs < 2 ^ 53) : own_Q k.toInt (FP.ddiv (FP.l2d k) (4616189618054758400 : UInt64)) := by
  unfold own_Q
  rw [show ∀ a b, FP.ddiv a b = FP.Core.ddiv a b from fun _ _ => rfl, FP.Core.val64_ddiv, own_four]
  have hw : FP.Core.Whole k.toInt (FP.Core.val64 (FP.l2d k)) := FP.Core.l2d_int (Nat.le_of_lt hb)
  cases e : FP.Core.val64 (FP.l2d k) with
  | nan => rw [e] at hw; exact hw.elim
  | inf => rw [e] at hw; exact hw.elim
  | fin s c q =>
    rw [e] at hw
    have u := FP.Core.whole_natAbs hw
    have e2 : FP.Core.quotient FP.Core.b64 (.fin s c q) (.fin false (2 ^ 52) (-50)) = FP.Core.round FP.Core.b64 (.fin s k.toInt.natAbs (-2)) := by
      show (if (2 ^ 52 : Nat) = 0 then (if c = 0 then .nan else .inf (s != false)) else FP.Core.roundRatio FP.Core.b64 (s != false) c (2 ^ 52) (q - -50)) = FP.Core.roundRatio FP.Core.b64 s k.toInt.natAbs 1 (-2)
      rw [if_neg (by decide), show (s != false) = s by cases s <;> rfl]
      refine FP.Core.roundRatio_congr (by decide) (by decide) ?_
      generalize k.toInt.natAbs = n at u
      rw [Nat.mul_one, show (q - -50 - -2) = q + 52 by omega, show (-2 - (q - -50)) = -(q + 52) by omega, Nat.mul_assoc, ← Nat.pow_add]
      refine own_pw (z := (-q).toNat) ?_
      have x1 : (q + 52).toNat + (-q).toNat = q.toNat + (52 + (-(q + 52)).toNat - 0) := by omega
      have x2 : 52 + (-(q + 52)).toNat + (-q).toNat = (-q).toNat + (52 + (-(q + 52)).toNat) := by omega
      rw [x1, x2, Nat.pow_add, Nat.pow_add, ← Nat.mul_assoc, ← Nat.mul_assoc, u, Nat.sub_zero]
    rw [e2]
    exact own_rnd_up hb (own_signed hw)
theorem own_Q_cmp {i : Int} {a b : UInt64} (ha : own_Q i a) (hb : own_Q i b) (o : CmpOp) : cmpValue (FP.dcmp a b) o = 0 := by
  have e : FP.dcmp a b = some .eq := by
    show FP.Core.order (FP.Core.val64 a) (FP.Core.val64 b) = some .eq
    unfold own_Q at ha hb
    generalize FP.Core.val64 a = x at ha
    generalize FP.Core.val64 b = y at hb
    cases x with
    | nan => exact ha.elim
    | inf => exact ha.elim
    | fin s c q =>
    cases y with
    | nan => exact hb.elim
    | inf => exact hb.elim
    | fin t d r =>
      have h := FP.Core.order_whole ha hb
      have m : min (q + 2) (r + 2) = min q r + 2 := by omega
      simp only [own_up, FP.Core.order, m, FP.Core.inUnits, show q + 2 - (min q r + 2) = q - min q r by omega, show r + 2 - (min q r + 2) = r - min q r by omega, FP.Core.compare_self_int] at h
      exact h
  rw [e]; cases o <;> rfl
/-- a quarter of k -/
def own_q (k : Int64) : UInt64 := FP.ddiv (FP.l2d k) (4616189618054758400 : UInt64)
def own_k (a b c d : Int64) (j : Nat) : Int64 := if j = 0 then a else if j = 1 then b else if j = 2 then c else d
def own_acc (ks : Nat → Int64) : Nat → UInt64
  | 0 => 0
  | n + 1 => FP.dadd (own_acc ks n) (own_q (ks n))
def own_tot (ks : Nat → Int64) : Nat → Int
  | 0 => 0
  | n + 1 => own_tot ks n + (ks n).toInt
def own_ok (k : Int64) : Prop := 0 ≤ k.toInt ∧ k.toInt < 2147483648
theorem own_q_Q {k : Int64} (h : own_ok k) : own_Q k.toInt (own_q k) := own_Q_div (by have := h.1; have := h.2; omega)
theorem own_acc_Q (ks : Nat → Int64) (h : ∀ j, own_ok (ks j)) : ∀ n, n ≤ 4 → own_Q (own_tot ks n) (own_acc ks n) ∧ 0 ≤ own_tot ks n ∧ own_tot ks n ≤ 2147483648 * n := by
  intro n
  induction n with
  | zero => intro _; exact ⟨own_Q_zero, Int.le_refl _, by simp [own_tot]⟩
  | succ n ih =>
    intro hn
    obtain ⟨q1, q2, q3⟩ := ih (by omega)
    have q := own_q_Q (h n); have r := h n
    have b1 : 0 ≤ own_tot ks n + (ks n).toInt := by have := r.1; omega
    have b2 : own_tot ks n + (ks n).toInt ≤ 2147483648 * ((n + 1 : Nat) : Int) := by have := r.2; omega
    exact ⟨own_Q_add q1 q (by omega), b1, b2⟩
theorem own_acc_nn (ks : Nat → Int64) (h : ∀ j, own_ok (ks j)) (n : Nat) (hn : n + 1 ≤ 4) : Jvm.Free.Fl.NoNaN64 (FP.dadd (own_acc ks n) (own_q (ks n))) := own_Q_nn (own_acc_Q ks h (n + 1) hn).1
theorem own_mask (x : Int32) : own_ok (x.toInt64 &&& (2147483647 : Int64)) := by
  have a := c_maskL x.toInt64 (2147483647 : Int64) 31 (by decide) (by decide)
  unfold own_ok; omega
theorem own_k_ok {a b c d : Int64} (ha : own_ok a) (hb : own_ok b) (hc : own_ok c) (hd : own_ok d) (j : Nat) : own_ok (own_k a b c d j) := by
  unfold own_k; split
  · exact ha
  · split
    · exact hb
    · split
      · exact hc
      · exact hd
theorem own_add2 {a b : Int64} {x y : Int} (ha : a.toInt = x) (hb : b.toInt = y) (h1 : 0 ≤ x + y) (h2 : x + y < 9223372036854775808) : (a + b).toInt = x + y := by
  have c := c_ladd a b; have r := rng64 (a + b)
  omega
theorem own_small {n : Nat} (h : n < 2147483648) : n.toInt32.toInt = n := Int32.toInt_ofNat_small h
theorem own_clamp {i : Int32} {n : Nat} (h : i.toInt = n) : i.toNatClampNeg = n := by rw [← Int32.toNat_toInt, h]; rfl
theorem own_lt_of {i z : Int32} {n N : Nat} (h : i.toInt = n) (hz : z.toInt = N) : i < z ↔ n < N := by rw [Int32.lt_iff_toInt_lt, h, hz]; omega
theorem own_nn {i : Int32} {n : Nat} (h : i.toInt = n) : ¬ i < 0 := by
  rw [Int32.lt_iff_toInt_lt]; have : (0 : Int32).toInt = 0 := by decide
  omega
theorem own_inc {i : Int32} {n : Nat} (h : i.toInt = n) (q : n < 2147483647) : (i + 1).toInt = ((n + 1 : Nat) : Int) := by
  have a := c_iadd i 1; have b := rng32 (i + 1); have : (1 : Int32).toInt = 1 := by decide
  omega
theorem own_five (x : Int32) : ∃ z, z = (x &&& (2147483647 : Int32)) % (5 : Int32) ∧ (z = 0 ∨ z = 1 ∨ z = 2 ∨ z = 3 ∨ z = 4) := by
  have a := c_and x (2147483647 : Int32) (by decide)
  have b := (c_irem (x &&& (2147483647 : Int32)) (5 : Int32) 5 (by decide)).1 a.1
  refine ⟨_, rfl, ?_⟩
  generalize (x &&& (2147483647 : Int32)) % (5 : Int32) = z at b ⊢
  have h : z.toInt = 0 ∨ z.toInt = 1 ∨ z.toInt = 2 ∨ z.toInt = 3 ∨ z.toInt = 4 := by omega
  rcases h with h | h | h | h | h
  · exact Or.inl (Int32.toInt_inj.mp (by rw [h]; decide))
  · exact Or.inr (Or.inl (Int32.toInt_inj.mp (by rw [h]; decide)))
  · exact Or.inr (Or.inr (Or.inl (Int32.toInt_inj.mp (by rw [h]; decide))))
  · exact Or.inr (Or.inr (Or.inr (Or.inl (Int32.toInt_inj.mp (by rw [h]; decide)))))
  · exact Or.inr (Or.inr (Or.inr (Or.inr (Int32.toInt_inj.mp (by rw [h]; decide)))))
theorem own_last {z : Int32} (hn : z = 0 ∨ z = 1 ∨ z = 2 ∨ z = 3 ∨ z = 4) (h0 : ¬ z = 0) (h1 : ¬ z = 1) (h2 : ¬ z = 2) (h3 : ¬ z = 3) : z = 4 := by
  rcases hn with h | h | h | h | h
  · exact absurd h h0
  · exact absurd h h1
  · exact absurd h h2
  · exact absurd h h3
  · exact h
theorem own_sum0 {ka kb kc kd : Int64} (hka : own_ok ka) (hkb : own_ok kb) (hkc : own_ok kc) (hkd : own_ok kd) : ((0 : Int64)).toInt = own_tot (own_k ka kb kc kd) 0 := by
  have z0 : (0 : Int64).toInt = 0 := by decide
  obtain ⟨a1, a2⟩ := hka; obtain ⟨b1, b2⟩ := hkb; obtain ⟨c1, c2⟩ := hkc; obtain ⟨d1, d2⟩ := hkd
  show _ = (0 : Int)
  omega
theorem own_sum1 {ka kb kc kd : Int64} (hka : own_ok ka) (hkb : own_ok kb) (hkc : own_ok kc) (hkd : own_ok kd) : (((0 : Int64) + ka)).toInt = own_tot (own_k ka kb kc kd) 1 := by
  have z0 : (0 : Int64).toInt = 0 := by decide
  obtain ⟨a1, a2⟩ := hka; obtain ⟨b1, b2⟩ := hkb; obtain ⟨c1, c2⟩ := hkc; obtain ⟨d1, d2⟩ := hkd
  have s0 := c_ladd (0 : Int64) ka; have r0 := rng64 ((0 : Int64) + ka)
  show _ = (0 : Int) + ka.toInt
  omega
theorem own_sum2 {ka kb kc kd : Int64} (hka : own_ok ka) (hkb : own_ok kb) (hkc : own_ok kc) (hkd : own_ok kd) : ((((0 : Int64) + ka) + kb)).toInt = own_tot (own_k ka kb kc kd) 2 := by
  have z0 : (0 : Int64).toInt = 0 := by decide
  obtain ⟨a1, a2⟩ := hka; obtain ⟨b1, b2⟩ := hkb; obtain ⟨c1, c2⟩ := hkc; obtain ⟨d1, d2⟩ := hkd
  have s0 := c_ladd (0 : Int64) ka; have r0 := rng64 ((0 : Int64) + ka)
  have s1 := c_ladd ((0 : Int64) + ka) kb; have r1 := rng64 (((0 : Int64) + ka) + kb)
  show _ = (0 : Int) + ka.toInt + kb.toInt
  omega
theorem own_sum3 {ka kb kc kd : Int64} (hka : own_ok ka) (hkb : own_ok kb) (hkc : own_ok kc) (hkd : own_ok kd) : (((((0 : Int64) + ka) + kb) + kc)).toInt = own_tot (own_k ka kb kc kd) 3 := by
  have z0 : (0 : Int64).toInt = 0 := by decide
  obtain ⟨a1, a2⟩ := hka; obtain ⟨b1, b2⟩ := hkb; obtain ⟨c1, c2⟩ := hkc; obtain ⟨d1, d2⟩ := hkd
  have s0 := c_ladd (0 : Int64) ka; have r0 := rng64 ((0 : Int64) + ka)
  have s1 := c_ladd ((0 : Int64) + ka) kb; have r1 := rng64 (((0 : Int64) + ka) + kb)
  have s2 := c_ladd (((0 : Int64) + ka) + kb) kc; have r2 := rng64 ((((0 : Int64) + ka) + kb) + kc)
  show _ = (0 : Int) + ka.toInt + kb.toInt + kc.toInt
  omega
theorem own_sum4 {ka kb kc kd : Int64} (hka : own_ok ka) (hkb : own_ok kb) (hkc : own_ok kc) (hkd : own_ok kd) : ((((((0 : Int64) + ka) + kb) + kc) + kd)).toInt = own_tot (own_k ka kb kc kd) 4 := by
  have z0 : (0 : Int64).toInt = 0 := by decide
  obtain ⟨a1, a2⟩ := hka; obtain ⟨b1, b2⟩ := hkb; obtain ⟨c1, c2⟩ := hkc; obtain ⟨d1, d2⟩ := hkd
  have s0 := c_ladd (0 : Int64) ka; have r0 := rng64 ((0 : Int64) + ka)
  have s1 := c_ladd ((0 : Int64) + ka) kb; have r1 := rng64 (((0 : Int64) + ka) + kb)
  have s2 := c_ladd (((0 : Int64) + ka) + kb) kc; have r2 := rng64 ((((0 : Int64) + ka) + kb) + kc)
  have s3 := c_ladd ((((0 : Int64) + ka) + kb) + kc) kd; have r3 := rng64 (((((0 : Int64) + ka) + kb) + kc) + kd)
  show _ = (0 : Int) + ka.toInt + kb.toInt + kc.toInt + kd.toInt
  omega
theorem d1_0 : decode method_3_code 0 = .ok (.iload_n 0, 1) := by decide +kernel
theorem d1_1 : decode method_3_code 1 = .ok (.ifCond .ne 7, 3) := by decide +kernel
theorem d1_4 : decode method_3_code 4 = .ok (.iconst 0, 1) := by decide +kernel
theorem d1_5 : decode method_3_code 5 = .ok (.newarray .double, 2) := by decide +kernel
theorem d1_7 : decode method_3_code 7 = .ok (.areturn, 1) := by decide +kernel
theorem d1_8 : decode method_3_code 8 = .ok (.iload_n 0, 1) := by decide +kernel
theorem d1_9 : decode method_3_code 9 = .ok (.iconst 1, 1) := by decide +kernel
theorem d1_10 : decode method_3_code 10 = .ok (.if_icmp .ne 16, 3) := by decide +kernel
theorem d1_13 : decode method_3_code 13 = .ok (.iconst 1, 1) := by decide +kernel
theorem d1_14 : decode method_3_code 14 = .ok (.newarray .double, 2) := by decide +kernel
theorem d1_16 : decode method_3_code 16 = .ok (.dup, 1) := by decide +kernel
theorem d1_17 : decode method_3_code 17 = .ok (.iconst 0, 1) := by decide +kernel
theorem d1_18 : decode method_3_code 18 = .ok (.lload_n 1, 1) := by decide +kernel
theorem d1_19 : decode method_3_code 19 = .ok (.l2d, 1) := by decide +kernel
theorem d1_20 : decode method_3_code 20 = .ok (.ldc2_w 25, 3) := by decide +kernel
theorem d1_23 : decode method_3_code 23 = .ok (.ddiv, 1) := by decide +kernel
theorem d1_24 : decode method_3_code 24 = .ok (.dastore, 1) := by decide +kernel
theorem d1_25 : decode method_3_code 25 = .ok (.areturn, 1) := by decide +kernel
theorem d1_26 : decode method_3_code 26 = .ok (.iload_n 0, 1) := by decide +kernel
theorem d1_27 : decode method_3_code 27 = .ok (.iconst 2, 1) := by decide +kernel
theorem d1_28 : decode method_3_code 28 = .ok (.if_icmp .ne 25, 3) := by decide +kernel
theorem d1_31 : decode method_3_code 31 = .ok (.iconst 2, 1) := by decide +kernel
theorem d1_32 : decode method_3_code 32 = .ok (.newarray .double, 2) := by decide +kernel
theorem d1_34 : decode method_3_code 34 = .ok (.dup, 1) := by decide +kernel
theorem d1_35 : decode method_3_code 35 = .ok (.iconst 0, 1) := by decide +kernel
theorem d1_36 : decode method_3_code 36 = .ok (.lload_n 1, 1) := by decide +kernel
theorem d1_37 : decode method_3_code 37 = .ok (.l2d, 1) := by decide +kernel
theorem d1_38 : decode method_3_code 38 = .ok (.ldc2_w 25, 3) := by decide +kernel
theorem d1_41 : decode method_3_code 41 = .ok (.ddiv, 1) := by decide +kernel
theorem d1_42 : decode method_3_code 42 = .ok (.dastore, 1) := by decide +kernel
theorem d1_43 : decode method_3_code 43 = .ok (.dup, 1) := by decide +kernel
theorem d1_44 : decode method_3_code 44 = .ok (.iconst 1, 1) := by decide +kernel
theorem d1_45 : decode method_3_code 45 = .ok (.lload_n 3, 1) := by decide +kernel
theorem d1_46 : decode method_3_code 46 = .ok (.l2d, 1) := by decide +kernel
theorem d1_47 : decode method_3_code 47 = .ok (.ldc2_w 25, 3) := by decide +kernel
theorem d1_50 : decode method_3_code 50 = .ok (.ddiv, 1) := by decide +kernel
theorem d1_51 : decode method_3_code 51 = .ok (.dastore, 1) := by decide +kernel
theorem d1_52 : decode method_3_code 52 = .ok (.areturn, 1) := by decide +kernel
theorem d1_53 : decode method_3_code 53 = .ok (.iload_n 0, 1) := by decide +kernel
theorem d1_54 : decode method_3_code 54 = .ok (.iconst 3, 1) := by decide +kernel
theorem d1_55 : decode method_3_code 55 = .ok (.if_icmp .ne 35, 3) := by decide +kernel
theorem d1_58 : decode method_3_code 58 = .ok (.iconst 3, 1) := by decide +kernel
theorem d1_59 : decode method_3_code 59 = .ok (.newarray .double, 2) := by decide +kernel
theorem d1_61 : decode method_3_code 61 = .ok (.dup, 1) := by decide +kernel
theorem d1_62 : decode method_3_code 62 = .ok (.iconst 0, 1) := by decide +kernel
theorem d1_63 : decode method_3_code 63 = .ok (.lload_n 1, 1) := by decide +kernel
theorem d1_64 : decode method_3_code 64 = .ok (.l2d, 1) := by decide +kernel
theorem d1_65 : decode method_3_code 65 = .ok (.ldc2_w 25, 3) := by decide +kernel
theorem d1_68 : decode method_3_code 68 = .ok (.ddiv, 1) := by decide +kernel
theorem d1_69 : decode method_3_code 69 = .ok (.dastore, 1) := by decide +kernel
theorem d1_70 : decode method_3_code 70 = .ok (.dup, 1) := by decide +kernel
theorem d1_71 : decode method_3_code 71 = .ok (.iconst 1, 1) := by decide +kernel
theorem d1_72 : decode method_3_code 72 = .ok (.lload_n 3, 1) := by decide +kernel
theorem d1_73 : decode method_3_code 73 = .ok (.l2d, 1) := by decide +kernel
theorem d1_74 : decode method_3_code 74 = .ok (.ldc2_w 25, 3) := by decide +kernel
theorem d1_77 : decode method_3_code 77 = .ok (.ddiv, 1) := by decide +kernel
theorem d1_78 : decode method_3_code 78 = .ok (.dastore, 1) := by decide +kernel
theorem d1_79 : decode method_3_code 79 = .ok (.dup, 1) := by decide +kernel
theorem d1_80 : decode method_3_code 80 = .ok (.iconst 2, 1) := by decide +kernel
theorem d1_81 : decode method_3_code 81 = .ok (.lload 5, 2) := by decide +kernel
theorem d1_83 : decode method_3_code 83 = .ok (.l2d, 1) := by decide +kernel
theorem d1_84 : decode method_3_code 84 = .ok (.ldc2_w 25, 3) := by decide +kernel
theorem d1_87 : decode method_3_code 87 = .ok (.ddiv, 1) := by decide +kernel
theorem d1_88 : decode method_3_code 88 = .ok (.dastore, 1) := by decide +kernel
theorem d1_89 : decode method_3_code 89 = .ok (.areturn, 1) := by decide +kernel
theorem d1_90 : decode method_3_code 90 = .ok (.iconst 4, 1) := by decide +kernel
theorem d1_91 : decode method_3_code 91 = .ok (.newarray .double, 2) := by decide +kernel
theorem d1_93 : decode method_3_code 93 = .ok (.dup, 1) := by decide +kernel
theorem d1_94 : decode method_3_code 94 = .ok (.iconst 0, 1) := by decide +kernel
theorem d1_95 : decode method_3_code 95 = .ok (.lload_n 1, 1) := by decide +kernel
theorem d1_96 : decode method_3_code 96 = .ok (.l2d, 1) := by decide +kernel
theorem d1_97 : decode method_3_code 97 = .ok (.ldc2_w 25, 3) := by decide +kernel
theorem d1_100 : decode method_3_code 100 = .ok (.ddiv, 1) := by decide +kernel
theorem d1_101 : decode method_3_code 101 = .ok (.dastore, 1) := by decide +kernel
theorem d1_102 : decode method_3_code 102 = .ok (.dup, 1) := by decide +kernel
theorem d1_103 : decode method_3_code 103 = .ok (.iconst 1, 1) := by decide +kernel
theorem d1_104 : decode method_3_code 104 = .ok (.lload_n 3, 1) := by decide +kernel
theorem d1_105 : decode method_3_code 105 = .ok (.l2d, 1) := by decide +kernel
theorem d1_106 : decode method_3_code 106 = .ok (.ldc2_w 25, 3) := by decide +kernel
theorem d1_109 : decode method_3_code 109 = .ok (.ddiv, 1) := by decide +kernel
theorem d1_110 : decode method_3_code 110 = .ok (.dastore, 1) := by decide +kernel
theorem d1_111 : decode method_3_code 111 = .ok (.dup, 1) := by decide +kernel
theorem d1_112 : decode method_3_code 112 = .ok (.iconst 2, 1) := by decide +kernel
theorem d1_113 : decode method_3_code 113 = .ok (.lload 5, 2) := by decide +kernel
theorem d1_115 : decode method_3_code 115 = .ok (.l2d, 1) := by decide +kernel
theorem d1_116 : decode method_3_code 116 = .ok (.ldc2_w 25, 3) := by decide +kernel
theorem d1_119 : decode method_3_code 119 = .ok (.ddiv, 1) := by decide +kernel
theorem d1_120 : decode method_3_code 120 = .ok (.dastore, 1) := by decide +kernel
theorem d1_121 : decode method_3_code 121 = .ok (.dup, 1) := by decide +kernel
theorem d1_122 : decode method_3_code 122 = .ok (.iconst 3, 1) := by decide +kernel
theorem d1_123 : decode method_3_code 123 = .ok (.lload 7, 2) := by decide +kernel
theorem d1_125 : decode method_3_code 125 = .ok (.l2d, 1) := by decide +kernel
theorem d1_126 : decode method_3_code 126 = .ok (.ldc2_w 25, 3) := by decide +kernel
theorem d1_129 : decode method_3_code 129 = .ok (.ddiv, 1) := by decide +kernel
theorem d1_130 : decode method_3_code 130 = .ok (.dastore, 1) := by decide +kernel
theorem d1_131 : decode method_3_code 131 = .ok (.areturn, 1) := by decide +kernel
theorem pn_0 : plainName "com/example/tasks_to_slots/taskstoslots/model/TotalsCostUsdPinLaw" = true := by first | (simp [plainName, overriddenIn]; done) | decide +kernel
theorem ef_1 (m : MethodId) (x0 : Int32) (x1 : Int64) (x2 : Int64) (x3 : Int64) (x4 : Int64) : entryFrame m #[(.int x0), (.long x1), (.long x2), (.long x3), (.long x4)] 9 = mkF m 0 #[.val (.int x0), .val (.long x1), .second, .val (.long x2), .second, .val (.long x3), .second, .val (.long x4), .second] [] := by first | (simp [entryFrame, mkF, argsToLocals, Value.category]; done) | rfl
def Q1 (Z : State) (nz : Int32) (ka : Int64) (kb : Int64) (kc : Int64) (kd : Int64) (h0 : Heap) (n0 : Nat) (v : Option Value) (h : Heap) (L : List Loc) : Prop := ∃ b, v = some (.ref b) ∧ Fr n0 L ∧ Keep h0 h [] ∧ h0.size ≤ b ∧ own_Ar Z h b .double nz (fun j => .double (own_q (own_k ka kb kc kd j)))
def P1 (Z : State) (nz : Int32) (ka : Int64) (kb : Int64) (kc : Int64) (kd : Int64) (h0 : Heap) (n0 : Nat) (s : State) (oQ : Outcome) (U : State) : Prop := ∃ v L, oQ = .returned v ∧ Q1 Z nz ka kb kc kd h0 n0 v U.heap L ∧ FrameEnd s oQ U L ({ frames := 0, cells := 1, slots := 4, locals := 0 } : Room).cells ({ frames := 0, cells := 1, slots := 4, locals := 0 } : Room).slots
set_option maxRecDepth 65536 in
set_option maxHeartbeats 40000000 in
theorem rm1 (l : Launch) (Z : State) (a0 : Array Value) (hw : ∀ d ∈ tables_1, d.before a0 Z = true) (ws : List Jvm.Cond) (nz : Int32) (ka : Int64) (kb : Int64) (kc : Int64) (kd : Int64) (h0 : Heap) (n0 : Nat) (Z0 : n0 ≤ h0.size) (hka : own_ok ka) (hkb : own_ok kb) (hkc : own_ok kc) (hkd : own_ok kd) (hn : nz = 0 ∨ nz = 1 ∨ nz = 2 ∨ nz = 3 ∨ nz = 4) :
    MetFree l (⟨"com/example/tasks_to_slots/taskstoslots/model/TotalsCostUsdPinLaw", "charges", "(IJJJJ)[D"⟩ : MethodName) (head1 (Jvm.Cond.code (⟨"com/example/tasks_to_slots/taskstoslots/model/TotalsCostUsdPinLaw", "charges", "(IJJJJ)[D"⟩ : MethodName) method_3_code 9 (some (.array .double)) :: ws) ({ frames := 0, cells := 1, slots := 4, locals := 0 } : Room)) (fun aQ U => aQ = #[(.int nz), (.long ka), (.long kb), (.long kc), (.long kd)] ∧ Z.Warmed39 U.vm ∧ U.heap = h0) (fun _ _ _ _ _ => True) (fun _ U oQ U' => ∃ v L, oQ = .returned v ∧ Q1 Z nz ka kb kc kd h0 n0 v U'.heap L ∧ FrameEnd U oQ U' L ({ frames := 0, cells := 1, slots := 4, locals := 0 } : Room).cells ({ frames := 0, cells := 1, slots := 4, locals := 0 } : Room).slots) := by
  refine MetFree.of_bodySF (plainFor_of_name pn_0) hisR ?_
  intro p e s m args below meth c s₁ Bd hml0 hP hK
  obtain ⟨rfl, hZ, hh⟩ := hP
  have hx := Bd.exec
  have hby := Bd.bytes
  have hml : c.maxLocals = 9 := hml0
  have hown : s.vm.findClass "com/example/tasks_to_slots/taskstoslots/model/TotalsCostUsdPinLaw" = some m.cls := findClass_of_methodNamed Bd.named
  have hnm := (name_of_methodNamed Bd.named Bd.method).1
  have X0 : Stand p l e ({ frames := 0, cells := 1, slots := 4, locals := 0 } : Room) s m #[(.int nz), (.long ka), (.long kb), (.long kc), (.long kd)] below meth c s₁ [] 0 0 := Stand.of_body Bd
  have e0 : s₁.heap = h0 := by rw [← hh, Bd.state]; rfl
  have Nf := Fr.nil n0
  have Zs : n0 ≤ h0.size := Z0
  have Kp : Keep h0 h0 [] := Keep.refl _ _
  have szr : h0.size ≤ h0.size := Nat.le_refl _
  show own_End p e below (P1 Z nz ka kb kc kd h0 n0 s) (s₁.setTop (entryFrame m #[(.int nz), (.long ka), (.long kb), (.long kc), (.long kd)] 9))
  rw [ef_1]
  refine own_go (fun tQ kQ => XS.iloadN X0.here hx rfl (hb hby d1_0) rfl kQ) ?_
  show own_End p e below _ (s₁.setTop (mkF m 1 #[.val (.int nz), .val (.long ka), .second, .val (.long kb), .second, .val (.long kc), .second, .val (.long kd), .second] [(.int nz)]))
  by_cases hc1 : nz = (0 : Int32)
  ·
    refine own_go (fun tQ kQ => XS.ifNo X0.here hx rfl (hb hby d1_1) rfl ((if0 _ _).trans (teq hc1).2) kQ) ?_
    show own_End p e below _ (s₁.setTop (mkF m 4 #[.val (.int nz), .val (.long ka), .second, .val (.long kb), .second, .val (.long kc), .second, .val (.long kd), .second] []))
    refine own_go (fun tQ kQ => XS.iconst X0.here hx rfl (hb hby d1_4) kQ) ?_
    show own_End p e below _ (s₁.setTop (mkF m 5 #[.val (.int nz), .val (.long ka), .second, .val (.long kb), .second, .val (.long kc), .second, .val (.long kd), .second] [(.int (0 : Int32))]))
    obtain ⟨T1, h1, k1, X1, e1, E1, A1, st1⟩ := newP X0 hx hZ (hw _ (List.mem_of_getElem? (i := 6) rfl)) e0 (g := (mkF m 5 #[.val (.int nz), .val (.long ka), .second, .val (.long kb), .second, .val (.long kc), .second, .val (.long kd), .second] [(.int (0 : Int32))])) rfl (hb hby d1_5) rfl (by decide) (cap := 0) (by decide) (by decide) (by decide) (by decide)
    obtain ⟨b, g1⟩ : ∃ z, z = h0.size := ⟨_, rfl⟩
    rw [← g1] at A1 st1
    have g_b : n0 ≤ b := Nat.le_trans Zs (Nat.le_of_eq g1.symm)
    have sz_b : h0.size ≤ b := Nat.le_trans szr (Nat.le_of_eq g1.symm)
    have Kp := Kp.ext E1
    have Zs := Nat.le_trans Zs E1.1
    have szr := Nat.le_trans szr E1.1
    have V_b : own_Ar Z h1 b .double (0 : Int32) (fun _ => (.double (0 : UInt64))) := own_Ar.new A1 (by decide)
    refine own_go (fun tQ kQ => st1 tQ kQ) ?_
    show own_End p e below _ (T1.setTop (mkF m 7 #[.val (.int nz), .val (.long ka), .second, .val (.long kb), .second, .val (.long kc), .second, .val (.long kd), .second] [(.ref b)]))
    have V_b : own_Ar Z h1 b .double nz (fun j => .double (own_q (own_k ka kb kc kd j))) := by rw [hc1]; exact V_b.turn (fun j hj => absurd hj (Nat.not_lt_zero _))
    obtain ⟨fs, hr, hrun, hended, hW, hsame⟩ := X1.leave (v := some (.ref b)) (fun h => by rw [Bd.returns] at h; cases h)
    refine ⟨_, _, ?_, hrun, hended, _, _, rfl, ?_, ⟨_, rfl⟩, hW, hsame.mono (by decide) (by decide)⟩
    · exact (by
        jvm_step X1.here [X1.here.top, hx, (hb hby d1_7), X1.method', Bd.returns, Value.isRef, FieldType.isReference, narrow]
        first | (intro acts; rw [hr _ acts rfl rfl rfl]) | rw [hr _ _ rfl rfl rfl]
        exact Steps.refl _)
    · show Q1 Z nz ka kb kc kd h0 n0 _ T1.heap _
      rw [e1]
      exact ⟨b, rfl, Nf, Kp, sz_b, V_b⟩
  ·
    refine own_go (fun tQ kQ => XS.ifYes X0.here hx rfl (pc0 := 1) (pc' := 8) rfl (hb hby d1_1) rfl ((if0 _ _).trans (feq hc1).2) (by decide) (by decide) kQ) ?_
    show own_End p e below _ (s₁.setTop (mkF m 8 #[.val (.int nz), .val (.long ka), .second, .val (.long kb), .second, .val (.long kc), .second, .val (.long kd), .second] []))
    refine own_go (fun tQ kQ => XS.iloadN X0.here hx rfl (hb hby d1_8) rfl kQ) ?_
    show own_End p e below _ (s₁.setTop (mkF m 9 #[.val (.int nz), .val (.long ka), .second, .val (.long kb), .second, .val (.long kc), .second, .val (.long kd), .second] [(.int nz)]))
    refine own_go (fun tQ kQ => XS.iconst X0.here hx rfl (hb hby d1_9) kQ) ?_
    show own_End p e below _ (s₁.setTop (mkF m 10 #[.val (.int nz), .val (.long ka), .second, .val (.long kb), .second, .val (.long kc), .second, .val (.long kd), .second] [(.int (1 : Int32)), (.int nz)]))
    by_cases hc10 : nz = (1 : Int32)
    ·
      refine own_go (fun tQ kQ => XS.icmpNo X0.here hx rfl (hb hby d1_10) rfl (teq hc10).2 kQ) ?_
      show own_End p e below _ (s₁.setTop (mkF m 13 #[.val (.int nz), .val (.long ka), .second, .val (.long kb), .second, .val (.long kc), .second, .val (.long kd), .second] []))
      refine own_go (fun tQ kQ => XS.iconst X0.here hx rfl (hb hby d1_13) kQ) ?_
      show own_End p e below _ (s₁.setTop (mkF m 14 #[.val (.int nz), .val (.long ka), .second, .val (.long kb), .second, .val (.long kc), .second, .val (.long kd), .second] [(.int (1 : Int32))]))
      obtain ⟨T2, h2, k2, X2, e2, E2, A2, st2⟩ := newP X0 hx hZ (hw _ (List.mem_of_getElem? (i := 6) rfl)) e0 (g := (mkF m 14 #[.val (.int nz), .val (.long ka), .second, .val (.long kb), .second, .val (.long kc), .second, .val (.long kd), .second] [(.int (1 : Int32))])) rfl (hb hby d1_14) rfl (by decide) (cap := 1) (by decide) (by decide) (by decide) (by decide)
      obtain ⟨b, g2⟩ : ∃ z, z = h0.size := ⟨_, rfl⟩
      rw [← g2] at A2 st2
      have g_b : n0 ≤ b := Nat.le_trans Zs (Nat.le_of_eq g2.symm)
      have sz_b : h0.size ≤ b := Nat.le_trans szr (Nat.le_of_eq g2.symm)
      have Kp := Kp.ext E2
      have Zs := Nat.le_trans Zs E2.1
      have szr := Nat.le_trans szr E2.1
      have V_b : own_Ar Z h2 b .double (1 : Int32) (fun _ => (.double (0 : UInt64))) := own_Ar.new A2 (by decide)
      refine own_go (fun tQ kQ => st2 tQ kQ) ?_
      show own_End p e below _ (T2.setTop (mkF m 16 #[.val (.int nz), .val (.long ka), .second, .val (.long kb), .second, .val (.long kc), .second, .val (.long kd), .second] [(.ref b)]))
      refine own_go (fun tQ kQ => XS.dup X2.here hx rfl (hb hby d1_16) rfl rfl kQ) ?_
      show own_End p e below _ (T2.setTop (mkF m 17 #[.val (.int nz), .val (.long ka), .second, .val (.long kb), .second, .val (.long kc), .second, .val (.long kd), .second] [(.ref b), (.ref b)]))
      refine own_go (fun tQ kQ => XS.iconst X2.here hx rfl (hb hby d1_17) kQ) ?_
      show own_End p e below _ (T2.setTop (mkF m 18 #[.val (.int nz), .val (.long ka), .second, .val (.long kb), .second, .val (.long kc), .second, .val (.long kd), .second] [(.int (0 : Int32)), (.ref b), (.ref b)]))
      refine own_go (fun tQ kQ => XS.lloadN X2.here hx rfl (hb hby d1_18) rfl kQ) ?_
      show own_End p e below _ (T2.setTop (mkF m 19 #[.val (.int nz), .val (.long ka), .second, .val (.long kb), .second, .val (.long kc), .second, .val (.long kd), .second] [(.long ka), (.int (0 : Int32)), (.ref b), (.ref b)]))
      refine own_go (fun tQ kQ => XS.l2dS X2.here hx rfl (hb hby d1_19) rfl rfl kQ) ?_
      show own_End p e below _ (T2.setTop (mkF m 20 #[.val (.int nz), .val (.long ka), .second, .val (.long kb), .second, .val (.long kc), .second, .val (.long kd), .second] [(.double (FP.l2d ka)), (.int (0 : Int32)), (.ref b), (.ref b)]))
      refine own_go (fun tQ kQ => X2.ldc2DoubleC hx hown (mvT hZ (hw _ (List.mem_of_getElem? (i := 33) rfl))) (g := (mkF m 20 #[.val (.int nz), .val (.long ka), .second, .val (.long kb), .second, .val (.long kc), .second, .val (.long kd), .second] [(.double (FP.l2d ka)), (.int (0 : Int32)), (.ref b), (.ref b)])) rfl (hb hby d1_20) _ kQ) ?_
      show own_End p e below _ (T2.setTop (mkF m 23 #[.val (.int nz), .val (.long ka), .second, .val (.long kb), .second, .val (.long kc), .second, .val (.long kd), .second] [(.double (4616189618054758400 : UInt64)), (.double (FP.l2d ka)), (.int (0 : Int32)), (.ref b), (.ref b)]))
      refine own_go (fun tQ kQ => XS.ddivS X2.here hx rfl (hb hby d1_23) rfl (own_Q_nn (own_q_Q hka)) rfl kQ) ?_
      show own_End p e below _ (T2.setTop (mkF m 24 #[.val (.int nz), .val (.long ka), .second, .val (.long kb), .second, .val (.long kc), .second, .val (.long kd), .second] [(.double (FP.ddiv (FP.l2d ka) (4616189618054758400 : UInt64))), (.int (0 : Int32)), (.ref b), (.ref b)]))
      obtain ⟨cl3, Ar3, S3, M3, H3⟩ := id V_b
      have hin3 := inb_of (j := (0 : Int32)) S3 ⟨(by decide), (by decide)⟩
      obtain ⟨T4, h4, X4, e4, W4, st4⟩ := stD X2 hx hZ e2 Ar3 (j := (0 : Int32)) hin3 (g := (mkF m 24 #[.val (.int nz), .val (.long ka), .second, .val (.long kb), .second, .val (.long kc), .second, .val (.long kd), .second] [(.double (FP.ddiv (FP.l2d ka) (4616189618054758400 : UInt64))), (.int (0 : Int32)), (.ref b), (.ref b)])) rfl rfl (hb hby d1_24)
      have V_b := own_Ar_set Ar3 S3 M3 H3 W4
      have Kp := Kp.wr W4 (Or.inr sz_b)
      have Nf := Fr.snoc X4 Nf g_b
      have Zs := Nat.le_trans Zs (Keep.of_wr W4).1
      have szr := Nat.le_trans szr (Keep.of_wr W4).1
      refine own_go (fun tQ kQ => st4 tQ kQ) ?_
      show own_End p e below _ (T4.setTop (mkF m 25 #[.val (.int nz), .val (.long ka), .second, .val (.long kb), .second, .val (.long kc), .second, .val (.long kd), .second] [(.ref b)]))
      have V_b : own_Ar Z h4 b .double nz (fun j => .double (own_q (own_k ka kb kc kd j))) := by
        rw [hc10]
        refine V_b.turn (fun j hj => ?_)
        have hj' : j < 1 := hj
        have hj2 : j = 0 := by omega
        rcases hj2 with rfl <;> rfl
      obtain ⟨fs, hr, hrun, hended, hW, hsame⟩ := X4.leave (v := some (.ref b)) (fun h => by rw [Bd.returns] at h; cases h)
      refine ⟨_, _, ?_, hrun, hended, _, _, rfl, ?_, ⟨_, rfl⟩, hW, hsame.mono (by decide) (by decide)⟩
      · exact (by
          jvm_step X4.here [X4.here.top, hx, (hb hby d1_25), X4.method', Bd.returns, Value.isRef, FieldType.isReference, narrow]
          first | (intro acts; rw [hr _ acts rfl rfl rfl]) | rw [hr _ _ rfl rfl rfl]
          exact Steps.refl _)
      · show Q1 Z nz ka kb kc kd h0 n0 _ T4.heap _
        rw [e4]
        exact ⟨b, rfl, Nf, Kp, sz_b, V_b⟩
    ·
      refine own_go (fun tQ kQ => XS.icmpYes X0.here hx rfl (pc0 := 10) (pc' := 26) rfl (hb hby d1_10) rfl (feq hc10).2 (by decide) (by decide) kQ) ?_
      show own_End p e below _ (s₁.setTop (mkF m 26 #[.val (.int nz), .val (.long ka), .second, .val (.long kb), .second, .val (.long kc), .second, .val (.long kd), .second] []))
      refine own_go (fun tQ kQ => XS.iloadN X0.here hx rfl (hb hby d1_26) rfl kQ) ?_
      show own_End p e below _ (s₁.setTop (mkF m 27 #[.val (.int nz), .val (.long ka), .second, .val (.long kb), .second, .val (.long kc), .second, .val (.long kd), .second] [(.int nz)]))
      refine own_go (fun tQ kQ => XS.iconst X0.here hx rfl (hb hby d1_27) kQ) ?_
      show own_End p e below _ (s₁.setTop (mkF m 28 #[.val (.int nz), .val (.long ka), .second, .val (.long kb), .second, .val (.long kc), .second, .val (.long kd), .second] [(.int (2 : Int32)), (.int nz)]))
      by_cases hc28 : nz = (2 : Int32)
      ·
        refine own_go (fun tQ kQ => XS.icmpNo X0.here hx rfl (hb hby d1_28) rfl (teq hc28).2 kQ) ?_
        show own_End p e below _ (s₁.setTop (mkF m 31 #[.val (.int nz), .val (.long ka), .second, .val (.long kb), .second, .val (.long kc), .second, .val (.long kd), .second] []))
        refine own_go (fun tQ kQ => XS.iconst X0.here hx rfl (hb hby d1_31) kQ) ?_
        show own_End p e below _ (s₁.setTop (mkF m 32 #[.val (.int nz), .val (.long ka), .second, .val (.long kb), .second, .val (.long kc), .second, .val (.long kd), .second] [(.int (2 : Int32))]))
        obtain ⟨T5, h5, k5, X5, e5, E5, A5, st5⟩ := newP X0 hx hZ (hw _ (List.mem_of_getElem? (i := 6) rfl)) e0 (g := (mkF m 32 #[.val (.int nz), .val (.long ka), .second, .val (.long kb), .second, .val (.long kc), .second, .val (.long kd), .second] [(.int (2 : Int32))])) rfl (hb hby d1_32) rfl (by decide) (cap := 2) (by decide) (by decide) (by decide) (by decide)
        obtain ⟨b, g5⟩ : ∃ z, z = h0.size := ⟨_, rfl⟩
        rw [← g5] at A5 st5
        have g_b : n0 ≤ b := Nat.le_trans Zs (Nat.le_of_eq g5.symm)
        have sz_b : h0.size ≤ b := Nat.le_trans szr (Nat.le_of_eq g5.symm)
        have Kp := Kp.ext E5
        have Zs := Nat.le_trans Zs E5.1
        have szr := Nat.le_trans szr E5.1
        have V_b : own_Ar Z h5 b .double (2 : Int32) (fun _ => (.double (0 : UInt64))) := own_Ar.new A5 (by decide)
        refine own_go (fun tQ kQ => st5 tQ kQ) ?_
        show own_End p e below _ (T5.setTop (mkF m 34 #[.val (.int nz), .val (.long ka), .second, .val (.long kb), .second, .val (.long kc), .second, .val (.long kd), .second] [(.ref b)]))
        refine own_go (fun tQ kQ => XS.dup X5.here hx rfl (hb hby d1_34) rfl rfl kQ) ?_
        show own_End p e below _ (T5.setTop (mkF m 35 #[.val (.int nz), .val (.long ka), .second, .val (.long kb), .second, .val (.long kc), .second, .val (.long kd), .second] [(.ref b), (.ref b)]))
        refine own_go (fun tQ kQ => XS.iconst X5.here hx rfl (hb hby d1_35) kQ) ?_
        show own_End p e below _ (T5.setTop (mkF m 36 #[.val (.int nz), .val (.long ka), .second, .val (.long kb), .second, .val (.long kc), .second, .val (.long kd), .second] [(.int (0 : Int32)), (.ref b), (.ref b)]))
        refine own_go (fun tQ kQ => XS.lloadN X5.here hx rfl (hb hby d1_36) rfl kQ) ?_
        show own_End p e below _ (T5.setTop (mkF m 37 #[.val (.int nz), .val (.long ka), .second, .val (.long kb), .second, .val (.long kc), .second, .val (.long kd), .second] [(.long ka), (.int (0 : Int32)), (.ref b), (.ref b)]))
        refine own_go (fun tQ kQ => XS.l2dS X5.here hx rfl (hb hby d1_37) rfl rfl kQ) ?_
        show own_End p e below _ (T5.setTop (mkF m 38 #[.val (.int nz), .val (.long ka), .second, .val (.long kb), .second, .val (.long kc), .second, .val (.long kd), .second] [(.double (FP.l2d ka)), (.int (0 : Int32)), (.ref b), (.ref b)]))
        refine own_go (fun tQ kQ => X5.ldc2DoubleC hx hown (mvT hZ (hw _ (List.mem_of_getElem? (i := 33) rfl))) (g := (mkF m 38 #[.val (.int nz), .val (.long ka), .second, .val (.long kb), .second, .val (.long kc), .second, .val (.long kd), .second] [(.double (FP.l2d ka)), (.int (0 : Int32)), (.ref b), (.ref b)])) rfl (hb hby d1_38) _ kQ) ?_
        show own_End p e below _ (T5.setTop (mkF m 41 #[.val (.int nz), .val (.long ka), .second, .val (.long kb), .second, .val (.long kc), .second, .val (.long kd), .second] [(.double (4616189618054758400 : UInt64)), (.double (FP.l2d ka)), (.int (0 : Int32)), (.ref b), (.ref b)]))
        refine own_go (fun tQ kQ => XS.ddivS X5.here hx rfl (hb hby d1_41) rfl (own_Q_nn (own_q_Q hka)) rfl kQ) ?_
        show own_End p e below _ (T5.setTop (mkF m 42 #[.val (.int nz), .val (.long ka), .second, .val (.long kb), .second, .val (.long kc), .second, .val (.long kd), .second] [(.double (FP.ddiv (FP.l2d ka) (4616189618054758400 : UInt64))), (.int (0 : Int32)), (.ref b), (.ref b)]))
        obtain ⟨cl6, Ar6, S6, M6, H6⟩ := id V_b
        have hin6 := inb_of (j := (0 : Int32)) S6 ⟨(by decide), (by decide)⟩
        obtain ⟨T7, h7, X7, e7, W7, st7⟩ := stD X5 hx hZ e5 Ar6 (j := (0 : Int32)) hin6 (g := (mkF m 42 #[.val (.int nz), .val (.long ka), .second, .val (.long kb), .second, .val (.long kc), .second, .val (.long kd), .second] [(.double (FP.ddiv (FP.l2d ka) (4616189618054758400 : UInt64))), (.int (0 : Int32)), (.ref b), (.ref b)])) rfl rfl (hb hby d1_42)
        have V_b := own_Ar_set Ar6 S6 M6 H6 W7
        have Kp := Kp.wr W7 (Or.inr sz_b)
        have Nf := Fr.snoc X7 Nf g_b
        have Zs := Nat.le_trans Zs (Keep.of_wr W7).1
        have szr := Nat.le_trans szr (Keep.of_wr W7).1
        refine own_go (fun tQ kQ => st7 tQ kQ) ?_
        show own_End p e below _ (T7.setTop (mkF m 43 #[.val (.int nz), .val (.long ka), .second, .val (.long kb), .second, .val (.long kc), .second, .val (.long kd), .second] [(.ref b)]))
        refine own_go (fun tQ kQ => XS.dup X7.here hx rfl (hb hby d1_43) rfl rfl kQ) ?_
        show own_End p e below _ (T7.setTop (mkF m 44 #[.val (.int nz), .val (.long ka), .second, .val (.long kb), .second, .val (.long kc), .second, .val (.long kd), .second] [(.ref b), (.ref b)]))
        refine own_go (fun tQ kQ => XS.iconst X7.here hx rfl (hb hby d1_44) kQ) ?_
        show own_End p e below _ (T7.setTop (mkF m 45 #[.val (.int nz), .val (.long ka), .second, .val (.long kb), .second, .val (.long kc), .second, .val (.long kd), .second] [(.int (1 : Int32)), (.ref b), (.ref b)]))
        refine own_go (fun tQ kQ => XS.lloadN X7.here hx rfl (hb hby d1_45) rfl kQ) ?_
        show own_End p e below _ (T7.setTop (mkF m 46 #[.val (.int nz), .val (.long ka), .second, .val (.long kb), .second, .val (.long kc), .second, .val (.long kd), .second] [(.long kb), (.int (1 : Int32)), (.ref b), (.ref b)]))
        refine own_go (fun tQ kQ => XS.l2dS X7.here hx rfl (hb hby d1_46) rfl rfl kQ) ?_
        show own_End p e below _ (T7.setTop (mkF m 47 #[.val (.int nz), .val (.long ka), .second, .val (.long kb), .second, .val (.long kc), .second, .val (.long kd), .second] [(.double (FP.l2d kb)), (.int (1 : Int32)), (.ref b), (.ref b)]))
        refine own_go (fun tQ kQ => X7.ldc2DoubleC hx hown (mvT hZ (hw _ (List.mem_of_getElem? (i := 33) rfl))) (g := (mkF m 47 #[.val (.int nz), .val (.long ka), .second, .val (.long kb), .second, .val (.long kc), .second, .val (.long kd), .second] [(.double (FP.l2d kb)), (.int (1 : Int32)), (.ref b), (.ref b)])) rfl (hb hby d1_47) _ kQ) ?_
        show own_End p e below _ (T7.setTop (mkF m 50 #[.val (.int nz), .val (.long ka), .second, .val (.long kb), .second, .val (.long kc), .second, .val (.long kd), .second] [(.double (4616189618054758400 : UInt64)), (.double (FP.l2d kb)), (.int (1 : Int32)), (.ref b), (.ref b)]))
        refine own_go (fun tQ kQ => XS.ddivS X7.here hx rfl (hb hby d1_50) rfl (own_Q_nn (own_q_Q hkb)) rfl kQ) ?_
        show own_End p e below _ (T7.setTop (mkF m 51 #[.val (.int nz), .val (.long ka), .second, .val (.long kb), .second, .val (.long kc), .second, .val (.long kd), .second] [(.double (FP.ddiv (FP.l2d kb) (4616189618054758400 : UInt64))), (.int (1 : Int32)), (.ref b), (.ref b)]))
        obtain ⟨cl8, Ar8, S8, M8, H8⟩ := id V_b
        have hin8 := inb_of (j := (1 : Int32)) S8 ⟨(by decide), (by decide)⟩
        obtain ⟨T9, h9, X9, e9, W9, st9⟩ := stD X7 hx hZ e7 Ar8 (j := (1 : Int32)) hin8 (g := (mkF m 51 #[.val (.int nz), .val (.long ka), .second, .val (.long kb), .second, .val (.long kc), .second, .val (.long kd), .second] [(.double (FP.ddiv (FP.l2d kb) (4616189618054758400 : UInt64))), (.int (1 : Int32)), (.ref b), (.ref b)])) rfl rfl (hb hby d1_51)
        have V_b := own_Ar_set Ar8 S8 M8 H8 W9
        have Kp := Kp.wr W9 (Or.inr sz_b)
        have Nf := Fr.snoc X9 Nf g_b
        have Zs := Nat.le_trans Zs (Keep.of_wr W9).1
        have szr := Nat.le_trans szr (Keep.of_wr W9).1
        refine own_go (fun tQ kQ => st9 tQ kQ) ?_
        show own_End p e below _ (T9.setTop (mkF m 52 #[.val (.int nz), .val (.long ka), .second, .val (.long kb), .second, .val (.long kc), .second, .val (.long kd), .second] [(.ref b)]))
        have V_b : own_Ar Z h9 b .double nz (fun j => .double (own_q (own_k ka kb kc kd j))) := by
          rw [hc28]
          refine V_b.turn (fun j hj => ?_)
          have hj' : j < 2 := hj
          have hj2 : j = 0 ∨ j = 1 := by omega
          rcases hj2 with rfl | rfl <;> rfl
        obtain ⟨fs, hr, hrun, hended, hW, hsame⟩ := X9.leave (v := some (.ref b)) (fun h => by rw [Bd.returns] at h; cases h)
        refine ⟨_, _, ?_, hrun, hended, _, _, rfl, ?_, ⟨_, rfl⟩, hW, hsame.mono (by decide) (by decide)⟩
        · exact (by
            jvm_step X9.here [X9.here.top, hx, (hb hby d1_52), X9.method', Bd.returns, Value.isRef, FieldType.isReference, narrow]
            first | (intro acts; rw [hr _ acts rfl rfl rfl]) | rw [hr _ _ rfl rfl rfl]
            exact Steps.refl _)
        · show Q1 Z nz ka kb kc kd h0 n0 _ T9.heap _
          rw [e9]
          exact ⟨b, rfl, Nf, Kp, sz_b, V_b⟩
      ·
        refine own_go (fun tQ kQ => XS.icmpYes X0.here hx rfl (pc0 := 28) (pc' := 53) rfl (hb hby d1_28) rfl (feq hc28).2 (by decide) (by decide) kQ) ?_
        show own_End p e below _ (s₁.setTop (mkF m 53 #[.val (.int nz), .val (.long ka), .second, .val (.long kb), .second, .val (.long kc), .second, .val (.long kd), .second] []))
        refine own_go (fun tQ kQ => XS.iloadN X0.here hx rfl (hb hby d1_53) rfl kQ) ?_
        show own_End p e below _ (s₁.setTop (mkF m 54 #[.val (.int nz), .val (.long ka), .second, .val (.long kb), .second, .val (.long kc), .second, .val (.long kd), .second] [(.int nz)]))
        refine own_go (fun tQ kQ => XS.iconst X0.here hx rfl (hb hby d1_54) kQ) ?_
        show own_End p e below _ (s₁.setTop (mkF m 55 #[.val (.int nz), .val (.long ka), .second, .val (.long kb), .second, .val (.long kc), .second, .val (.long kd), .second] [(.int (3 : Int32)), (.int nz)]))
        by_cases hc55 : nz = (3 : Int32)
        ·
          refine own_go (fun tQ kQ => XS.icmpNo X0.here hx rfl (hb hby d1_55) rfl (teq hc55).2 kQ) ?_
          show own_End p e below _ (s₁.setTop (mkF m 58 #[.val (.int nz), .val (.long ka), .second, .val (.long kb), .second, .val (.long kc), .second, .val (.long kd), .second] []))
          refine own_go (fun tQ kQ => XS.iconst X0.here hx rfl (hb hby d1_58) kQ) ?_
          show own_End p e below _ (s₁.setTop (mkF m 59 #[.val (.int nz), .val (.long ka), .second, .val (.long kb), .second, .val (.long kc), .second, .val (.long kd), .second] [(.int (3 : Int32))]))
          obtain ⟨T10, h10, k10, X10, e10, E10, A10, st10⟩ := newP X0 hx hZ (hw _ (List.mem_of_getElem? (i := 6) rfl)) e0 (g := (mkF m 59 #[.val (.int nz), .val (.long ka), .second, .val (.long kb), .second, .val (.long kc), .second, .val (.long kd), .second] [(.int (3 : Int32))])) rfl (hb hby d1_59) rfl (by decide) (cap := 3) (by decide) (by decide) (by decide) (by decide)
          obtain ⟨b, g10⟩ : ∃ z, z = h0.size := ⟨_, rfl⟩
          rw [← g10] at A10 st10
          have g_b : n0 ≤ b := Nat.le_trans Zs (Nat.le_of_eq g10.symm)
          have sz_b : h0.size ≤ b := Nat.le_trans szr (Nat.le_of_eq g10.symm)
          have Kp := Kp.ext E10
          have Zs := Nat.le_trans Zs E10.1
          have szr := Nat.le_trans szr E10.1
          have V_b : own_Ar Z h10 b .double (3 : Int32) (fun _ => (.double (0 : UInt64))) := own_Ar.new A10 (by decide)
          refine own_go (fun tQ kQ => st10 tQ kQ) ?_
          show own_End p e below _ (T10.setTop (mkF m 61 #[.val (.int nz), .val (.long ka), .second, .val (.long kb), .second, .val (.long kc), .second, .val (.long kd), .second] [(.ref b)]))
          refine own_go (fun tQ kQ => XS.dup X10.here hx rfl (hb hby d1_61) rfl rfl kQ) ?_
          show own_End p e below _ (T10.setTop (mkF m 62 #[.val (.int nz), .val (.long ka), .second, .val (.long kb), .second, .val (.long kc), .second, .val (.long kd), .second] [(.ref b), (.ref b)]))
          refine own_go (fun tQ kQ => XS.iconst X10.here hx rfl (hb hby d1_62) kQ) ?_
          show own_End p e below _ (T10.setTop (mkF m 63 #[.val (.int nz), .val (.long ka), .second, .val (.long kb), .second, .val (.long kc), .second, .val (.long kd), .second] [(.int (0 : Int32)), (.ref b), (.ref b)]))
          refine own_go (fun tQ kQ => XS.lloadN X10.here hx rfl (hb hby d1_63) rfl kQ) ?_
          show own_End p e below _ (T10.setTop (mkF m 64 #[.val (.int nz), .val (.long ka), .second, .val (.long kb), .second, .val (.long kc), .second, .val (.long kd), .second] [(.long ka), (.int (0 : Int32)), (.ref b), (.ref b)]))
          refine own_go (fun tQ kQ => XS.l2dS X10.here hx rfl (hb hby d1_64) rfl rfl kQ) ?_
          show own_End p e below _ (T10.setTop (mkF m 65 #[.val (.int nz), .val (.long ka), .second, .val (.long kb), .second, .val (.long kc), .second, .val (.long kd), .second] [(.double (FP.l2d ka)), (.int (0 : Int32)), (.ref b), (.ref b)]))
          refine own_go (fun tQ kQ => X10.ldc2DoubleC hx hown (mvT hZ (hw _ (List.mem_of_getElem? (i := 33) rfl))) (g := (mkF m 65 #[.val (.int nz), .val (.long ka), .second, .val (.long kb), .second, .val (.long kc), .second, .val (.long kd), .second] [(.double (FP.l2d ka)), (.int (0 : Int32)), (.ref b), (.ref b)])) rfl (hb hby d1_65) _ kQ) ?_
          show own_End p e below _ (T10.setTop (mkF m 68 #[.val (.int nz), .val (.long ka), .second, .val (.long kb), .second, .val (.long kc), .second, .val (.long kd), .second] [(.double (4616189618054758400 : UInt64)), (.double (FP.l2d ka)), (.int (0 : Int32)), (.ref b), (.ref b)]))
          refine own_go (fun tQ kQ => XS.ddivS X10.here hx rfl (hb hby d1_68) rfl (own_Q_nn (own_q_Q hka)) rfl kQ) ?_
          show own_End p e below _ (T10.setTop (mkF m 69 #[.val (.int nz), .val (.long ka), .second, .val (.long kb), .second, .val (.long kc), .second, .val (.long kd), .second] [(.double (FP.ddiv (FP.l2d ka) (4616189618054758400 : UInt64))), (.int (0 : Int32)), (.ref b), (.ref b)]))
          obtain ⟨cl11, Ar11, S11, M11, H11⟩ := id V_b
          have hin11 := inb_of (j := (0 : Int32)) S11 ⟨(by decide), (by decide)⟩
          obtain ⟨T12, h12, X12, e12, W12, st12⟩ := stD X10 hx hZ e10 Ar11 (j := (0 : Int32)) hin11 (g := (mkF m 69 #[.val (.int nz), .val (.long ka), .second, .val (.long kb), .second, .val (.long kc), .second, .val (.long kd), .second] [(.double (FP.ddiv (FP.l2d ka) (4616189618054758400 : UInt64))), (.int (0 : Int32)), (.ref b), (.ref b)])) rfl rfl (hb hby d1_69)
          have V_b := own_Ar_set Ar11 S11 M11 H11 W12
          have Kp := Kp.wr W12 (Or.inr sz_b)
          have Nf := Fr.snoc X12 Nf g_b
          have Zs := Nat.le_trans Zs (Keep.of_wr W12).1
          have szr := Nat.le_trans szr (Keep.of_wr W12).1
          refine own_go (fun tQ kQ => st12 tQ kQ) ?_
          show own_End p e below _ (T12.setTop (mkF m 70 #[.val (.int nz), .val (.long ka), .second, .val (.long kb), .second, .val (.long kc), .second, .val (.long kd), .second] [(.ref b)]))
          refine own_go (fun tQ kQ => XS.dup X12.here hx rfl (hb hby d1_70) rfl rfl kQ) ?_
          show own_End p e below _ (T12.setTop (mkF m 71 #[.val (.int nz), .val (.long ka), .second, .val (.long kb), .second, .val (.long kc), .second, .val (.long kd), .second] [(.ref b), (.ref b)]))
          refine own_go (fun tQ kQ => XS.iconst X12.here hx rfl (hb hby d1_71) kQ) ?_
          show own_End p e below _ (T12.setTop (mkF m 72 #[.val (.int nz), .val (.long ka), .second, .val (.long kb), .second, .val (.long kc), .second, .val (.long kd), .second] [(.int (1 : Int32)), (.ref b), (.ref b)]))
          refine own_go (fun tQ kQ => XS.lloadN X12.here hx rfl (hb hby d1_72) rfl kQ) ?_
          show own_End p e below _ (T12.setTop (mkF m 73 #[.val (.int nz), .val (.long ka), .second, .val (.long kb), .second, .val (.long kc), .second, .val (.long kd), .second] [(.long kb), (.int (1 : Int32)), (.ref b), (.ref b)]))
          refine own_go (fun tQ kQ => XS.l2dS X12.here hx rfl (hb hby d1_73) rfl rfl kQ) ?_
          show own_End p e below _ (T12.setTop (mkF m 74 #[.val (.int nz), .val (.long ka), .second, .val (.long kb), .second, .val (.long kc), .second, .val (.long kd), .second] [(.double (FP.l2d kb)), (.int (1 : Int32)), (.ref b), (.ref b)]))
          refine own_go (fun tQ kQ => X12.ldc2DoubleC hx hown (mvT hZ (hw _ (List.mem_of_getElem? (i := 33) rfl))) (g := (mkF m 74 #[.val (.int nz), .val (.long ka), .second, .val (.long kb), .second, .val (.long kc), .second, .val (.long kd), .second] [(.double (FP.l2d kb)), (.int (1 : Int32)), (.ref b), (.ref b)])) rfl (hb hby d1_74) _ kQ) ?_
          show own_End p e below _ (T12.setTop (mkF m 77 #[.val (.int nz), .val (.long ka), .second, .val (.long kb), .second, .val (.long kc), .second, .val (.long kd), .second] [(.double (4616189618054758400 : UInt64)), (.double (FP.l2d kb)), (.int (1 : Int32)), (.ref b), (.ref b)]))
          refine own_go (fun tQ kQ => XS.ddivS X12.here hx rfl (hb hby d1_77) rfl (own_Q_nn (own_q_Q hkb)) rfl kQ) ?_
          show own_End p e below _ (T12.setTop (mkF m 78 #[.val (.int nz), .val (.long ka), .second, .val (.long kb), .second, .val (.long kc), .second, .val (.long kd), .second] [(.double (FP.ddiv (FP.l2d kb) (4616189618054758400 : UInt64))), (.int (1 : Int32)), (.ref b), (.ref b)]))
          obtain ⟨cl13, Ar13, S13, M13, H13⟩ := id V_b
          have hin13 := inb_of (j := (1 : Int32)) S13 ⟨(by decide), (by decide)⟩
          obtain ⟨T14, h14, X14, e14, W14, st14⟩ := stD X12 hx hZ e12 Ar13 (j := (1 : Int32)) hin13 (g := (mkF m 78 #[.val (.int nz), .val (.long ka), .second, .val (.long kb), .second, .val (.long kc), .second, .val (.long kd), .second] [(.double (FP.ddiv (FP.l2d kb) (4616189618054758400 : UInt64))), (.int (1 : Int32)), (.ref b), (.ref b)])) rfl rfl (hb hby d1_78)
          have V_b := own_Ar_set Ar13 S13 M13 H13 W14
          have Kp := Kp.wr W14 (Or.inr sz_b)
          have Nf := Fr.snoc X14 Nf g_b
          have Zs := Nat.le_trans Zs (Keep.of_wr W14).1
          have szr := Nat.le_trans szr (Keep.of_wr W14).1
          refine own_go (fun tQ kQ => st14 tQ kQ) ?_
          show own_End p e below _ (T14.setTop (mkF m 79 #[.val (.int nz), .val (.long ka), .second, .val (.long kb), .second, .val (.long kc), .second, .val (.long kd), .second] [(.ref b)]))
          refine own_go (fun tQ kQ => XS.dup X14.here hx rfl (hb hby d1_79) rfl rfl kQ) ?_
          show own_End p e below _ (T14.setTop (mkF m 80 #[.val (.int nz), .val (.long ka), .second, .val (.long kb), .second, .val (.long kc), .second, .val (.long kd), .second] [(.ref b), (.ref b)]))
          refine own_go (fun tQ kQ => XS.iconst X14.here hx rfl (hb hby d1_80) kQ) ?_
          show own_End p e below _ (T14.setTop (mkF m 81 #[.val (.int nz), .val (.long ka), .second, .val (.long kb), .second, .val (.long kc), .second, .val (.long kd), .second] [(.int (2 : Int32)), (.ref b), (.ref b)]))
          refine own_go (fun tQ kQ => XS.lload X14.here hx rfl (hb hby d1_81) rfl kQ) ?_
          show own_End p e below _ (T14.setTop (mkF m 83 #[.val (.int nz), .val (.long ka), .second, .val (.long kb), .second, .val (.long kc), .second, .val (.long kd), .second] [(.long kc), (.int (2 : Int32)), (.ref b), (.ref b)]))
          refine own_go (fun tQ kQ => XS.l2dS X14.here hx rfl (hb hby d1_83) rfl rfl kQ) ?_
          show own_End p e below _ (T14.setTop (mkF m 84 #[.val (.int nz), .val (.long ka), .second, .val (.long kb), .second, .val (.long kc), .second, .val (.long kd), .second] [(.double (FP.l2d kc)), (.int (2 : Int32)), (.ref b), (.ref b)]))
          refine own_go (fun tQ kQ => X14.ldc2DoubleC hx hown (mvT hZ (hw _ (List.mem_of_getElem? (i := 33) rfl))) (g := (mkF m 84 #[.val (.int nz), .val (.long ka), .second, .val (.long kb), .second, .val (.long kc), .second, .val (.long kd), .second] [(.double (FP.l2d kc)), (.int (2 : Int32)), (.ref b), (.ref b)])) rfl (hb hby d1_84) _ kQ) ?_
          show own_End p e below _ (T14.setTop (mkF m 87 #[.val (.int nz), .val (.long ka), .second, .val (.long kb), .second, .val (.long kc), .second, .val (.long kd), .second] [(.double (4616189618054758400 : UInt64)), (.double (FP.l2d kc)), (.int (2 : Int32)), (.ref b), (.ref b)]))
          refine own_go (fun tQ kQ => XS.ddivS X14.here hx rfl (hb hby d1_87) rfl (own_Q_nn (own_q_Q hkc)) rfl kQ) ?_
          show own_End p e below _ (T14.setTop (mkF m 88 #[.val (.int nz), .val (.long ka), .second, .val (.long kb), .second, .val (.long kc), .second, .val (.long kd), .second] [(.double (FP.ddiv (FP.l2d kc) (4616189618054758400 : UInt64))), (.int (2 : Int32)), (.ref b), (.ref b)]))
          obtain ⟨cl15, Ar15, S15, M15, H15⟩ := id V_b
          have hin15 := inb_of (j := (2 : Int32)) S15 ⟨(by decide), (by decide)⟩
          obtain ⟨T16, h16, X16, e16, W16, st16⟩ := stD X14 hx hZ e14 Ar15 (j := (2 : Int32)) hin15 (g := (mkF m 88 #[.val (.int nz), .val (.long ka), .second, .val (.long kb), .second, .val (.long kc), .second, .val (.long kd), .second] [(.double (FP.ddiv (FP.l2d kc) (4616189618054758400 : UInt64))), (.int (2 : Int32)), (.ref b), (.ref b)])) rfl rfl (hb hby d1_88)
          have V_b := own_Ar_set Ar15 S15 M15 H15 W16
          have Kp := Kp.wr W16 (Or.inr sz_b)
          have Nf := Fr.snoc X16 Nf g_b
          have Zs := Nat.le_trans Zs (Keep.of_wr W16).1
          have szr := Nat.le_trans szr (Keep.of_wr W16).1
          refine own_go (fun tQ kQ => st16 tQ kQ) ?_
          show own_End p e below _ (T16.setTop (mkF m 89 #[.val (.int nz), .val (.long ka), .second, .val (.long kb), .second, .val (.long kc), .second, .val (.long kd), .second] [(.ref b)]))
          have V_b : own_Ar Z h16 b .double nz (fun j => .double (own_q (own_k ka kb kc kd j))) := by
            rw [hc55]
            refine V_b.turn (fun j hj => ?_)
            have hj' : j < 3 := hj
            have hj2 : j = 0 ∨ j = 1 ∨ j = 2 := by omega
            rcases hj2 with rfl | rfl | rfl <;> rfl
          obtain ⟨fs, hr, hrun, hended, hW, hsame⟩ := X16.leave (v := some (.ref b)) (fun h => by rw [Bd.returns] at h; cases h)
          refine ⟨_, _, ?_, hrun, hended, _, _, rfl, ?_, ⟨_, rfl⟩, hW, hsame.mono (by decide) (by decide)⟩
          · exact (by
              jvm_step X16.here [X16.here.top, hx, (hb hby d1_89), X16.method', Bd.returns, Value.isRef, FieldType.isReference, narrow]
              first | (intro acts; rw [hr _ acts rfl rfl rfl]) | rw [hr _ _ rfl rfl rfl]
              exact Steps.refl _)
          · show Q1 Z nz ka kb kc kd h0 n0 _ T16.heap _
            rw [e16]
            exact ⟨b, rfl, Nf, Kp, sz_b, V_b⟩
        ·
          refine own_go (fun tQ kQ => XS.icmpYes X0.here hx rfl (pc0 := 55) (pc' := 90) rfl (hb hby d1_55) rfl (feq hc55).2 (by decide) (by decide) kQ) ?_
          show own_End p e below _ (s₁.setTop (mkF m 90 #[.val (.int nz), .val (.long ka), .second, .val (.long kb), .second, .val (.long kc), .second, .val (.long kd), .second] []))
          refine own_go (fun tQ kQ => XS.iconst X0.here hx rfl (hb hby d1_90) kQ) ?_
          show own_End p e below _ (s₁.setTop (mkF m 91 #[.val (.int nz), .val (.long ka), .second, .val (.long kb), .second, .val (.long kc), .second, .val (.long kd), .second] [(.int (4 : Int32))]))
          obtain ⟨T17, h17, k17, X17, e17, E17, A17, st17⟩ := newP X0 hx hZ (hw _ (List.mem_of_getElem? (i := 6) rfl)) e0 (g := (mkF m 91 #[.val (.int nz), .val (.long ka), .second, .val (.long kb), .second, .val (.long kc), .second, .val (.long kd), .second] [(.int (4 : Int32))])) rfl (hb hby d1_91) rfl (by decide) (cap := 4) (by decide) (by decide) (by decide) (by decide)
          obtain ⟨b, g17⟩ : ∃ z, z = h0.size := ⟨_, rfl⟩
          rw [← g17] at A17 st17
          have g_b : n0 ≤ b := Nat.le_trans Zs (Nat.le_of_eq g17.symm)
          have sz_b : h0.size ≤ b := Nat.le_trans szr (Nat.le_of_eq g17.symm)
          have Kp := Kp.ext E17
          have Zs := Nat.le_trans Zs E17.1
          have szr := Nat.le_trans szr E17.1
          have V_b : own_Ar Z h17 b .double (4 : Int32) (fun _ => (.double (0 : UInt64))) := own_Ar.new A17 (by decide)
          refine own_go (fun tQ kQ => st17 tQ kQ) ?_
          show own_End p e below _ (T17.setTop (mkF m 93 #[.val (.int nz), .val (.long ka), .second, .val (.long kb), .second, .val (.long kc), .second, .val (.long kd), .second] [(.ref b)]))
          refine own_go (fun tQ kQ => XS.dup X17.here hx rfl (hb hby d1_93) rfl rfl kQ) ?_
          show own_End p e below _ (T17.setTop (mkF m 94 #[.val (.int nz), .val (.long ka), .second, .val (.long kb), .second, .val (.long kc), .second, .val (.long kd), .second] [(.ref b), (.ref b)]))
          refine own_go (fun tQ kQ => XS.iconst X17.here hx rfl (hb hby d1_94) kQ) ?_
          show own_End p e below _ (T17.setTop (mkF m 95 #[.val (.int nz), .val (.long ka), .second, .val (.long kb), .second, .val (.long kc), .second, .val (.long kd), .second] [(.int (0 : Int32)), (.ref b), (.ref b)]))
          refine own_go (fun tQ kQ => XS.lloadN X17.here hx rfl (hb hby d1_95) rfl kQ) ?_
          show own_End p e below _ (T17.setTop (mkF m 96 #[.val (.int nz), .val (.long ka), .second, .val (.long kb), .second, .val (.long kc), .second, .val (.long kd), .second] [(.long ka), (.int (0 : Int32)), (.ref b), (.ref b)]))
          refine own_go (fun tQ kQ => XS.l2dS X17.here hx rfl (hb hby d1_96) rfl rfl kQ) ?_
          show own_End p e below _ (T17.setTop (mkF m 97 #[.val (.int nz), .val (.long ka), .second, .val (.long kb), .second, .val (.long kc), .second, .val (.long kd), .second] [(.double (FP.l2d ka)), (.int (0 : Int32)), (.ref b), (.ref b)]))
          refine own_go (fun tQ kQ => X17.ldc2DoubleC hx hown (mvT hZ (hw _ (List.mem_of_getElem? (i := 33) rfl))) (g := (mkF m 97 #[.val (.int nz), .val (.long ka), .second, .val (.long kb), .second, .val (.long kc), .second, .val (.long kd), .second] [(.double (FP.l2d ka)), (.int (0 : Int32)), (.ref b), (.ref b)])) rfl (hb hby d1_97) _ kQ) ?_
          show own_End p e below _ (T17.setTop (mkF m 100 #[.val (.int nz), .val (.long ka), .second, .val (.long kb), .second, .val (.long kc), .second, .val (.long kd), .second] [(.double (4616189618054758400 : UInt64)), (.double (FP.l2d ka)), (.int (0 : Int32)), (.ref b), (.ref b)]))
          refine own_go (fun tQ kQ => XS.ddivS X17.here hx rfl (hb hby d1_100) rfl (own_Q_nn (own_q_Q hka)) rfl kQ) ?_
          show own_End p e below _ (T17.setTop (mkF m 101 #[.val (.int nz), .val (.long ka), .second, .val (.long kb), .second, .val (.long kc), .second, .val (.long kd), .second] [(.double (FP.ddiv (FP.l2d ka) (4616189618054758400 : UInt64))), (.int (0 : Int32)), (.ref b), (.ref b)]))
          obtain ⟨cl18, Ar18, S18, M18, H18⟩ := id V_b
          have hin18 := inb_of (j := (0 : Int32)) S18 ⟨(by decide), (by decide)⟩
          obtain ⟨T19, h19, X19, e19, W19, st19⟩ := stD X17 hx hZ e17 Ar18 (j := (0 : Int32)) hin18 (g := (mkF m 101 #[.val (.int nz), .val (.long ka), .second, .val (.long kb), .second, .val (.long kc), .second, .val (.long kd), .second] [(.double (FP.ddiv (FP.l2d ka) (4616189618054758400 : UInt64))), (.int (0 : Int32)), (.ref b), (.ref b)])) rfl rfl (hb hby d1_101)
          have V_b := own_Ar_set Ar18 S18 M18 H18 W19
          have Kp := Kp.wr W19 (Or.inr sz_b)
          have Nf := Fr.snoc X19 Nf g_b
          have Zs := Nat.le_trans Zs (Keep.of_wr W19).1
          have szr := Nat.le_trans szr (Keep.of_wr W19).1
          refine own_go (fun tQ kQ => st19 tQ kQ) ?_
          show own_End p e below _ (T19.setTop (mkF m 102 #[.val (.int nz), .val (.long ka), .second, .val (.long kb), .second, .val (.long kc), .second, .val (.long kd), .second] [(.ref b)]))
          refine own_go (fun tQ kQ => XS.dup X19.here hx rfl (hb hby d1_102) rfl rfl kQ) ?_
          show own_End p e below _ (T19.setTop (mkF m 103 #[.val (.int nz), .val (.long ka), .second, .val (.long kb), .second, .val (.long kc), .second, .val (.long kd), .second] [(.ref b), (.ref b)]))
          refine own_go (fun tQ kQ => XS.iconst X19.here hx rfl (hb hby d1_103) kQ) ?_
          show own_End p e below _ (T19.setTop (mkF m 104 #[.val (.int nz), .val (.long ka), .second, .val (.long kb), .second, .val (.long kc), .second, .val (.long kd), .second] [(.int (1 : Int32)), (.ref b), (.ref b)]))
          refine own_go (fun tQ kQ => XS.lloadN X19.here hx rfl (hb hby d1_104) rfl kQ) ?_
          show own_End p e below _ (T19.setTop (mkF m 105 #[.val (.int nz), .val (.long ka), .second, .val (.long kb), .second, .val (.long kc), .second, .val (.long kd), .second] [(.long kb), (.int (1 : Int32)), (.ref b), (.ref b)]))
          refine own_go (fun tQ kQ => XS.l2dS X19.here hx rfl (hb hby d1_105) rfl rfl kQ) ?_
          show own_End p e below _ (T19.setTop (mkF m 106 #[.val (.int nz), .val (.long ka), .second, .val (.long kb), .second, .val (.long kc), .second, .val (.long kd), .second] [(.double (FP.l2d kb)), (.int (1 : Int32)), (.ref b), (.ref b)]))
          refine own_go (fun tQ kQ => X19.ldc2DoubleC hx hown (mvT hZ (hw _ (List.mem_of_getElem? (i := 33) rfl))) (g := (mkF m 106 #[.val (.int nz), .val (.long ka), .second, .val (.long kb), .second, .val (.long kc), .second, .val (.long kd), .second] [(.double (FP.l2d kb)), (.int (1 : Int32)), (.ref b), (.ref b)])) rfl (hb hby d1_106) _ kQ) ?_
          show own_End p e below _ (T19.setTop (mkF m 109 #[.val (.int nz), .val (.long ka), .second, .val (.long kb), .second, .val (.long kc), .second, .val (.long kd), .second] [(.double (4616189618054758400 : UInt64)), (.double (FP.l2d kb)), (.int (1 : Int32)), (.ref b), (.ref b)]))
          refine own_go (fun tQ kQ => XS.ddivS X19.here hx rfl (hb hby d1_109) rfl (own_Q_nn (own_q_Q hkb)) rfl kQ) ?_
          show own_End p e below _ (T19.setTop (mkF m 110 #[.val (.int nz), .val (.long ka), .second, .val (.long kb), .second, .val (.long kc), .second, .val (.long kd), .second] [(.double (FP.ddiv (FP.l2d kb) (4616189618054758400 : UInt64))), (.int (1 : Int32)), (.ref b), (.ref b)]))
          obtain ⟨cl20, Ar20, S20, M20, H20⟩ := id V_b
          have hin20 := inb_of (j := (1 : Int32)) S20 ⟨(by decide), (by decide)⟩
          obtain ⟨T21, h21, X21, e21, W21, st21⟩ := stD X19 hx hZ e19 Ar20 (j := (1 : Int32)) hin20 (g := (mkF m 110 #[.val (.int nz), .val (.long ka), .second, .val (.long kb), .second, .val (.long kc), .second, .val (.long kd), .second] [(.double (FP.ddiv (FP.l2d kb) (4616189618054758400 : UInt64))), (.int (1 : Int32)), (.ref b), (.ref b)])) rfl rfl (hb hby d1_110)
          have V_b := own_Ar_set Ar20 S20 M20 H20 W21
          have Kp := Kp.wr W21 (Or.inr sz_b)
          have Nf := Fr.snoc X21 Nf g_b
          have Zs := Nat.le_trans Zs (Keep.of_wr W21).1
          have szr := Nat.le_trans szr (Keep.of_wr W21).1
          refine own_go (fun tQ kQ => st21 tQ kQ) ?_
          show own_End p e below _ (T21.setTop (mkF m 111 #[.val (.int nz), .val (.long ka), .second, .val (.long kb), .second, .val (.long kc), .second, .val (.long kd), .second] [(.ref b)]))
          refine own_go (fun tQ kQ => XS.dup X21.here hx rfl (hb hby d1_111) rfl rfl kQ) ?_
          show own_End p e below _ (T21.setTop (mkF m 112 #[.val (.int nz), .val (.long ka), .second, .val (.long kb), .second, .val (.long kc), .second, .val (.long kd), .second] [(.ref b), (.ref b)]))
          refine own_go (fun tQ kQ => XS.iconst X21.here hx rfl (hb hby d1_112) kQ) ?_
          show own_End p e below _ (T21.setTop (mkF m 113 #[.val (.int nz), .val (.long ka), .second, .val (.long kb), .second, .val (.long kc), .second, .val (.long kd), .second] [(.int (2 : Int32)), (.ref b), (.ref b)]))
          refine own_go (fun tQ kQ => XS.lload X21.here hx rfl (hb hby d1_113) rfl kQ) ?_
          show own_End p e below _ (T21.setTop (mkF m 115 #[.val (.int nz), .val (.long ka), .second, .val (.long kb), .second, .val (.long kc), .second, .val (.long kd), .second] [(.long kc), (.int (2 : Int32)), (.ref b), (.ref b)]))
          refine own_go (fun tQ kQ => XS.l2dS X21.here hx rfl (hb hby d1_115) rfl rfl kQ) ?_
          show own_End p e below _ (T21.setTop (mkF m 116 #[.val (.int nz), .val (.long ka), .second, .val (.long kb), .second, .val (.long kc), .second, .val (.long kd), .second] [(.double (FP.l2d kc)), (.int (2 : Int32)), (.ref b), (.ref b)]))
          refine own_go (fun tQ kQ => X21.ldc2DoubleC hx hown (mvT hZ (hw _ (List.mem_of_getElem? (i := 33) rfl))) (g := (mkF m 116 #[.val (.int nz), .val (.long ka), .second, .val (.long kb), .second, .val (.long kc), .second, .val (.long kd), .second] [(.double (FP.l2d kc)), (.int (2 : Int32)), (.ref b), (.ref b)])) rfl (hb hby d1_116) _ kQ) ?_
          show own_End p e below _ (T21.setTop (mkF m 119 #[.val (.int nz), .val (.long ka), .second, .val (.long kb), .second, .val (.long kc), .second, .val (.long kd), .second] [(.double (4616189618054758400 : UInt64)), (.double (FP.l2d kc)), (.int (2 : Int32)), (.ref b), (.ref b)]))
          refine own_go (fun tQ kQ => XS.ddivS X21.here hx rfl (hb hby d1_119) rfl (own_Q_nn (own_q_Q hkc)) rfl kQ) ?_
          show own_End p e below _ (T21.setTop (mkF m 120 #[.val (.int nz), .val (.long ka), .second, .val (.long kb), .second, .val (.long kc), .second, .val (.long kd), .second] [(.double (FP.ddiv (FP.l2d kc) (4616189618054758400 : UInt64))), (.int (2 : Int32)), (.ref b), (.ref b)]))
          obtain ⟨cl22, Ar22, S22, M22, H22⟩ := id V_b
          have hin22 := inb_of (j := (2 : Int32)) S22 ⟨(by decide), (by decide)⟩
          obtain ⟨T23, h23, X23, e23, W23, st23⟩ := stD X21 hx hZ e21 Ar22 (j := (2 : Int32)) hin22 (g := (mkF m 120 #[.val (.int nz), .val (.long ka), .second, .val (.long kb), .second, .val (.long kc), .second, .val (.long kd), .second] [(.double (FP.ddiv (FP.l2d kc) (4616189618054758400 : UInt64))), (.int (2 : Int32)), (.ref b), (.ref b)])) rfl rfl (hb hby d1_120)
          have V_b := own_Ar_set Ar22 S22 M22 H22 W23
          have Kp := Kp.wr W23 (Or.inr sz_b)
          have Nf := Fr.snoc X23 Nf g_b
          have Zs := Nat.le_trans Zs (Keep.of_wr W23).1
          have szr := Nat.le_trans szr (Keep.of_wr W23).1
          refine own_go (fun tQ kQ => st23 tQ kQ) ?_
          show own_End p e below _ (T23.setTop (mkF m 121 #[.val (.int nz), .val (.long ka), .second, .val (.long kb), .second, .val (.long kc), .second, .val (.long kd), .second] [(.ref b)]))
          refine own_go (fun tQ kQ => XS.dup X23.here hx rfl (hb hby d1_121) rfl rfl kQ) ?_
          show own_End p e below _ (T23.setTop (mkF m 122 #[.val (.int nz), .val (.long ka), .second, .val (.long kb), .second, .val (.long kc), .second, .val (.long kd), .second] [(.ref b), (.ref b)]))
          refine own_go (fun tQ kQ => XS.iconst X23.here hx rfl (hb hby d1_122) kQ) ?_
          show own_End p e below _ (T23.setTop (mkF m 123 #[.val (.int nz), .val (.long ka), .second, .val (.long kb), .second, .val (.long kc), .second, .val (.long kd), .second] [(.int (3 : Int32)), (.ref b), (.ref b)]))
          refine own_go (fun tQ kQ => XS.lload X23.here hx rfl (hb hby d1_123) rfl kQ) ?_
          show own_End p e below _ (T23.setTop (mkF m 125 #[.val (.int nz), .val (.long ka), .second, .val (.long kb), .second, .val (.long kc), .second, .val (.long kd), .second] [(.long kd), (.int (3 : Int32)), (.ref b), (.ref b)]))
          refine own_go (fun tQ kQ => XS.l2dS X23.here hx rfl (hb hby d1_125) rfl rfl kQ) ?_
          show own_End p e below _ (T23.setTop (mkF m 126 #[.val (.int nz), .val (.long ka), .second, .val (.long kb), .second, .val (.long kc), .second, .val (.long kd), .second] [(.double (FP.l2d kd)), (.int (3 : Int32)), (.ref b), (.ref b)]))
          refine own_go (fun tQ kQ => X23.ldc2DoubleC hx hown (mvT hZ (hw _ (List.mem_of_getElem? (i := 33) rfl))) (g := (mkF m 126 #[.val (.int nz), .val (.long ka), .second, .val (.long kb), .second, .val (.long kc), .second, .val (.long kd), .second] [(.double (FP.l2d kd)), (.int (3 : Int32)), (.ref b), (.ref b)])) rfl (hb hby d1_126) _ kQ) ?_
          show own_End p e below _ (T23.setTop (mkF m 129 #[.val (.int nz), .val (.long ka), .second, .val (.long kb), .second, .val (.long kc), .second, .val (.long kd), .second] [(.double (4616189618054758400 : UInt64)), (.double (FP.l2d kd)), (.int (3 : Int32)), (.ref b), (.ref b)]))
          refine own_go (fun tQ kQ => XS.ddivS X23.here hx rfl (hb hby d1_129) rfl (own_Q_nn (own_q_Q hkd)) rfl kQ) ?_
          show own_End p e below _ (T23.setTop (mkF m 130 #[.val (.int nz), .val (.long ka), .second, .val (.long kb), .second, .val (.long kc), .second, .val (.long kd), .second] [(.double (FP.ddiv (FP.l2d kd) (4616189618054758400 : UInt64))), (.int (3 : Int32)), (.ref b), (.ref b)]))
          obtain ⟨cl24, Ar24, S24, M24, H24⟩ := id V_b
          have hin24 := inb_of (j := (3 : Int32)) S24 ⟨(by decide), (by decide)⟩
          obtain ⟨T25, h25, X25, e25, W25, st25⟩ := stD X23 hx hZ e23 Ar24 (j := (3 : Int32)) hin24 (g := (mkF m 130 #[.val (.int nz), .val (.long ka), .second, .val (.long kb), .second, .val (.long kc), .second, .val (.long kd), .second] [(.double (FP.ddiv (FP.l2d kd) (4616189618054758400 : UInt64))), (.int (3 : Int32)), (.ref b), (.ref b)])) rfl rfl (hb hby d1_130)
          have V_b := own_Ar_set Ar24 S24 M24 H24 W25
          have Kp := Kp.wr W25 (Or.inr sz_b)
          have Nf := Fr.snoc X25 Nf g_b
          have Zs := Nat.le_trans Zs (Keep.of_wr W25).1
          have szr := Nat.le_trans szr (Keep.of_wr W25).1
          refine own_go (fun tQ kQ => st25 tQ kQ) ?_
          show own_End p e below _ (T25.setTop (mkF m 131 #[.val (.int nz), .val (.long ka), .second, .val (.long kb), .second, .val (.long kc), .second, .val (.long kd), .second] [(.ref b)]))
          have V_b : own_Ar Z h25 b .double nz (fun j => .double (own_q (own_k ka kb kc kd j))) := by
            rw [own_last hn hc1 hc10 hc28 hc55]
            refine V_b.turn (fun j hj => ?_)
            have hj' : j < 4 := hj
            have hj2 : j = 0 ∨ j = 1 ∨ j = 2 ∨ j = 3 := by omega
            rcases hj2 with rfl | rfl | rfl | rfl <;> rfl
          obtain ⟨fs, hr, hrun, hended, hW, hsame⟩ := X25.leave (v := some (.ref b)) (fun h => by rw [Bd.returns] at h; cases h)
          refine ⟨_, _, ?_, hrun, hended, _, _, rfl, ?_, ⟨_, rfl⟩, hW, hsame.mono (by decide) (by decide)⟩
          · exact (by
              jvm_step X25.here [X25.here.top, hx, (hb hby d1_131), X25.method', Bd.returns, Value.isRef, FieldType.isReference, narrow]
              first | (intro acts; rw [hr _ acts rfl rfl rfl]) | rw [hr _ _ rfl rfl rfl]
              exact Steps.refl _)
          · show Q1 Z nz ka kb kc kd h0 n0 _ T25.heap _
            rw [e25]
            exact ⟨b, rfl, Nf, Kp, sz_b, V_b⟩
theorem dR_0 : decode jdk_30_method_1_code 0 = .ok (.aload_n 0, 1) := by decide +kernel
theorem dR_1 : decode jdk_30_method_1_code 1 = .ok (.invokespecial 1, 3) := by decide +kernel
theorem dR_4 : decode jdk_30_method_1_code 4 = .ok (.return_, 1) := by decide +kernel
theorem pn_1 : plainName "java/lang/Record" = true := by first | (simp [plainName, overriddenIn]; done) | decide +kernel
theorem ef_R (m : MethodId) (x0 : Addr) : entryFrame m #[(.ref x0)] 1 = mkF m 0 #[.val (.ref x0)] [] := by first | (simp [entryFrame, mkF, argsToLocals, Value.category]; done) | rfl
def QR (Z : State) (a : Addr) (h0 : Heap) (n0 : Nat) (v : Option Value) (h : Heap) (L : List Loc) : Prop := v = none ∧ Fr n0 L ∧ h = h0
def PR (Z : State) (a : Addr) (h0 : Heap) (n0 : Nat) (s : State) (oQ : Outcome) (U : State) : Prop := ∃ v L, oQ = .returned v ∧ QR Z a h0 n0 v U.heap L ∧ FrameEnd s oQ U L ({ frames := 1, cells := 0, slots := 0, locals := 12 } : Room).cells ({ frames := 1, cells := 0, slots := 0, locals := 12 } : Room).slots
set_option maxRecDepth 65536 in
set_option maxHeartbeats 40000000 in
theorem rmR (l : Launch) (Z : State) (a0 : Array Value) (hw : ∀ d ∈ tables_1, d.before a0 Z = true) (ws : List Jvm.Cond) (a : Addr) (h0 : Heap) (n0 : Nat) (Z0 : n0 ≤ h0.size)  :
    MetFree l (⟨"java/lang/Record", "<init>", "()V"⟩ : MethodName) (head1 (Jvm.Cond.code (⟨"java/lang/Record", "<init>", "()V"⟩ : MethodName) jdk_30_method_1_code 1 none :: ws) ({ frames := 1, cells := 0, slots := 0, locals := 12 } : Room)) (fun aQ U => aQ = #[(.ref a)] ∧ Z.Warmed39 U.vm ∧ U.heap = h0) (fun _ _ _ _ _ => True) (fun _ U oQ U' => ∃ v L, oQ = .returned v ∧ QR Z a h0 n0 v U'.heap L ∧ FrameEnd U oQ U' L ({ frames := 1, cells := 0, slots := 0, locals := 12 } : Room).cells ({ frames := 1, cells := 0, slots := 0, locals := 12 } : Room).slots) := by
  refine MetFree.of_bodySF (plainFor_of_name pn_1) hisR ?_
  intro p e s m args below meth c s₁ Bd hml0 hP hK
  obtain ⟨rfl, hZ, hh⟩ := hP
  have hx := Bd.exec
  have hby := Bd.bytes
  have hml : c.maxLocals = 1 := hml0
  have hown : s.vm.findClass "java/lang/Record" = some m.cls := findClass_of_methodNamed Bd.named
  have hnm := (name_of_methodNamed Bd.named Bd.method).1
  have X0 : Stand p l e ({ frames := 1, cells := 0, slots := 0, locals := 12 } : Room) s m #[(.ref a)] below meth c s₁ [] 0 0 := Stand.of_body Bd
  have e0 : s₁.heap = h0 := by rw [← hh, Bd.state]; rfl
  have Nf := Fr.nil n0
  have Zs : n0 ≤ h0.size := Z0
  have Kp : Keep h0 h0 [] := Keep.refl _ _
  have szr : h0.size ≤ h0.size := Nat.le_refl _
  show own_End p e below (PR Z a h0 n0 s) (s₁.setTop (entryFrame m #[(.ref a)] 1))
  rw [ef_R]
  refine own_go (fun tQ kQ => XS.aloadN X0.here hx rfl (hb hby dR_0) rfl rfl kQ) ?_
  show own_End p e below _ (s₁.setTop (mkF m 1 #[.val (.ref a)] [(.ref a)]))
  obtain ⟨T1, X1, e1, st1⟩ := initO X0 hx hZ hown (hw _ (List.mem_of_getElem? (i := 19) rfl)) (hw _ (List.mem_of_getElem? (i := 20) rfl)) (hw _ (List.mem_of_getElem? (i := 21) rfl)) e0 (g := (mkF m 1 #[.val (.ref a)] [(.ref a)])) rfl (by rw [hml]; rfl) rfl (hb hby dR_1) (by decide) (W := 0) (by show 2 * 0 + _ ≤ _; exact Nat.le_of_eq rfl) (by decide)
  refine own_go (fun tQ kQ => st1 tQ kQ) ?_
  show own_End p e below _ (T1.setTop (mkF m 4 #[.val (.ref a)] []))
  obtain ⟨fs, hr, hrun, hended, hW, hsame⟩ := X1.leave (v := none) (fun _ => rfl)
  refine ⟨_, _, X1.returnOut hx Bd.returns (hb hby dR_4) hr, hrun, hended, _, _, rfl, ?_, ⟨_, rfl⟩, hW, hsame.mono (by decide) (by decide)⟩
  show QR Z a h0 n0 _ T1.heap _
  rw [e1]
  exact ⟨rfl, Nf, rfl⟩
theorem pd_2 : parseMethodDescriptor "()V" = some ⟨[], none⟩ := by decide +kernel
theorem d2_0 : decode prog_59_method_1_code 0 = .ok (.aload_n 0, 1) := by decide +kernel
theorem d2_1 : decode prog_59_method_1_code 1 = .ok (.invokespecial 1, 3) := by decide +kernel
theorem d2_4 : decode prog_59_method_1_code 4 = .ok (.aload_n 0, 1) := by decide +kernel
theorem d2_5 : decode prog_59_method_1_code 5 = .ok (.dload_n 1, 1) := by decide +kernel
theorem d2_6 : decode prog_59_method_1_code 6 = .ok (.putfield 7, 3) := by decide +kernel
theorem d2_9 : decode prog_59_method_1_code 9 = .ok (.aload_n 0, 1) := by decide +kernel
theorem d2_10 : decode prog_59_method_1_code 10 = .ok (.aload_n 3, 1) := by decide +kernel
theorem d2_11 : decode prog_59_method_1_code 11 = .ok (.putfield 13, 3) := by decide +kernel
theorem d2_14 : decode prog_59_method_1_code 14 = .ok (.aload_n 0, 1) := by decide +kernel
theorem d2_15 : decode prog_59_method_1_code 15 = .ok (.aload 4, 2) := by decide +kernel
theorem d2_17 : decode prog_59_method_1_code 17 = .ok (.putfield 17, 3) := by decide +kernel
theorem d2_20 : decode prog_59_method_1_code 20 = .ok (.return_, 1) := by decide +kernel
theorem pn_3 : plainName "com/example/tasks_to_slots/taskstoslots/model/PlanLayout$Totals" = true := by first | (simp [plainName, overriddenIn]; done) | decide +kernel
theorem ef_2 (m : MethodId) (x0 : Addr) (x1 : UInt64) (x2 : Addr) (x3 : Addr) : entryFrame m #[(.ref x0), (.double x1), (.ref x2), (.ref x3)] 5 = mkF m 0 #[.val (.ref x0), .val (.double x1), .second, .val (.ref x2), .val (.ref x3)] [] := by first | (simp [entryFrame, mkF, argsToLocals, Value.category]; done) | rfl
def Q2 (Z : State) (a : Addr) (dm : UInt64) (b : Addr) (vb : Addr) (h0 : Heap) (n0 : Nat) (v : Option Value) (h : Heap) (L : List Loc) : Prop := v = none ∧ Fr n0 L ∧ Keep h0 h [a] ∧ Fld Z h a "com/example/tasks_to_slots/taskstoslots/model/PlanLayout$Totals" "makespanSeconds" "D" (.double dm) ∧ Fld Z h a "com/example/tasks_to_slots/taskstoslots/model/PlanLayout$Totals" "chargesUsd" "[D" (.ref b) ∧ Fld Z h a "com/example/tasks_to_slots/taskstoslots/model/PlanLayout$Totals" "vmByTask" "[I" (.ref vb)
def P2 (Z : State) (a : Addr) (dm : UInt64) (b : Addr) (vb : Addr) (h0 : Heap) (n0 : Nat) (s : State) (oQ : Outcome) (U : State) : Prop := ∃ v L, oQ = .returned v ∧ Q2 Z a dm b vb h0 n0 v U.heap L ∧ FrameEnd s oQ U L ({ frames := 2, cells := 0, slots := 0, locals := 24 } : Room).cells ({ frames := 2, cells := 0, slots := 0, locals := 24 } : Room).slots
set_option maxRecDepth 65536 in
set_option maxHeartbeats 40000000 in
theorem rm2 (l : Launch) (Z : State) (a0 : Array Value) (hw : ∀ d ∈ tables_1, d.before a0 Z = true) (ws : List Jvm.Cond) (a : Addr) (dm : UInt64) (b : Addr) (vb : Addr) (h0 : Heap) (n0 : Nat) (Z0 : n0 ≤ h0.size) (E_a : Exa Z h0 a "com/example/tasks_to_slots/taskstoslots/model/PlanLayout$Totals") (F_makespanSeconds_a : Fld Z h0 a "com/example/tasks_to_slots/taskstoslots/model/PlanLayout$Totals" "makespanSeconds" "D" (.double (0 : UInt64))) (F_chargesUsd_a : Fld Z h0 a "com/example/tasks_to_slots/taskstoslots/model/PlanLayout$Totals" "chargesUsd" "[D" .null) (F_vmByTask_a : Fld Z h0 a "com/example/tasks_to_slots/taskstoslots/model/PlanLayout$Totals" "vmByTask" "[I" .null) (g_a : n0 ≤ a) :
    MetFree l (⟨"com/example/tasks_to_slots/taskstoslots/model/PlanLayout$Totals", "<init>", "(D[D[I)V"⟩ : MethodName) (head1 (Jvm.Cond.code (⟨"com/example/tasks_to_slots/taskstoslots/model/PlanLayout$Totals", "<init>", "(D[D[I)V"⟩ : MethodName) prog_59_method_1_code 5 none :: ws) ({ frames := 2, cells := 0, slots := 0, locals := 24 } : Room)) (fun aQ U => aQ = #[(.ref a), (.double dm), (.ref b), (.ref vb)] ∧ Z.Warmed39 U.vm ∧ U.heap = h0) (fun _ _ _ _ _ => True) (fun _ U oQ U' => ∃ v L, oQ = .returned v ∧ Q2 Z a dm b vb h0 n0 v U'.heap L ∧ FrameEnd U oQ U' L ({ frames := 2, cells := 0, slots := 0, locals := 24 } : Room).cells ({ frames := 2, cells := 0, slots := 0, locals := 24 } : Room).slots) := by
  refine MetFree.of_bodySF (plainFor_of_name pn_3) hisR ?_
  intro p e s m args below meth c s₁ Bd hml0 hP hK
  obtain ⟨rfl, hZ, hh⟩ := hP
  have hx := Bd.exec
  have hby := Bd.bytes
  have hml : c.maxLocals = 5 := hml0
  have hown : s.vm.findClass "com/example/tasks_to_slots/taskstoslots/model/PlanLayout$Totals" = some m.cls := findClass_of_methodNamed Bd.named
  have hnm := (name_of_methodNamed Bd.named Bd.method).1
  have X0 : Stand p l e ({ frames := 2, cells := 0, slots := 0, locals := 24 } : Room) s m #[(.ref a), (.double dm), (.ref b), (.ref vb)] below meth c s₁ [] 0 0 := Stand.of_body Bd
  have e0 : s₁.heap = h0 := by rw [← hh, Bd.state]; rfl
  have Nf := Fr.nil n0
  have Zs : n0 ≤ h0.size := Z0
  have Kp : Keep h0 h0 [a] := Keep.refl _ _
  have szr : h0.size ≤ h0.size := Nat.le_refl _
  show own_End p e below (P2 Z a dm b vb h0 n0 s) (s₁.setTop (entryFrame m #[(.ref a), (.double dm), (.ref b), (.ref vb)] 5))
  rw [ef_2]
  refine own_go (fun tQ kQ => XS.aloadN X0.here hx rfl (hb hby d2_0) rfl rfl kQ) ?_
  show own_End p e below _ (s₁.setTop (mkF m 1 #[.val (.ref a), .val (.double dm), .second, .val (.ref b), .val (.ref vb)] [(.ref a)]))
  obtain ⟨_, _, ⟨T1, L1, k1, n1⟩, -, X1, ⟨Lc1, hQ1, l1, y1, z1⟩, st1⟩ := X0.specialBack hx (y := (⟨"java/lang/Record", "<init>", "()V"⟩ : MethodName)) rfl hown (mvT hZ (hw _ (List.mem_of_getElem? (i := 14) rfl))) (mvT hZ (hw _ (List.mem_of_getElem? (i := 15) rfl))) (mvT hZ (hw _ (List.mem_of_getElem? (i := 18) rfl))) (by decide) (backOf (W := 0) (rmR l Z a0 hw [] a h0 n0 Zs ) hZ (hw _ (List.mem_of_getElem? (i := 18) rfl)) (hw _ (List.mem_of_getElem? (i := 17) rfl)) (by decide) (by decide)) (g := (mkF m 1 #[.val (.ref a), .val (.double dm), .second, .val (.ref b), .val (.ref vb)] [(.ref a)])) rfl (by rw [hml]; rfl) (Steps.refl _) (a := a) (argsL := []) (rest := []) (lenOf pd_2 rfl) rfl (by show 2 * 0 + _ ≤ _; exact Nat.le_of_eq rfl) (hb hby d2_1) (fun _ _ => ⟨rfl, e0, (Nat.le_of_ble_eq_true rfl), (Nat.le_of_ble_eq_true rfl)⟩)
  dsimp only [Pt.U, Pt.locs, Pt.cells, Pt.slots] at X1 l1 y1 z1 st1 hQ1
  subst l1 y1 z1
  obtain ⟨rfl, N1q, e1⟩ := hQ1
  have Nf := Fr.app Nf N1q
  refine own_go (fun tQ kQ => st1.trans kQ) ?_
  show own_End p e below _ (T1.setTop (mkF m 4 #[.val (.ref a), .val (.double dm), .second, .val (.ref b), .val (.ref vb)] []))
  refine own_go (fun tQ kQ => XS.aloadN X1.here hx rfl (hb hby d2_4) rfl rfl kQ) ?_
  show own_End p e below _ (T1.setTop (mkF m 5 #[.val (.ref a), .val (.double dm), .second, .val (.ref b), .val (.ref vb)] [(.ref a)]))
  refine own_go (fun tQ kQ => XS.dloadN X1.here hx rfl (hb hby d2_5) rfl kQ) ?_
  show own_End p e below _ (T1.setTop (mkF m 6 #[.val (.ref a), .val (.double dm), .second, .val (.ref b), .val (.ref vb)] [(.double dm), (.ref a)]))
  obtain ⟨T2, h2, X2, e2, W2, st2⟩ := putF X1 hx hZ hown (host := "") (Or.inl (hw _ (List.mem_of_getElem? (i := 22) rfl))) Via.refl e1 F_makespanSeconds_a E_a (Or.inr ⟨(hw _ (List.mem_of_getElem? (i := 23) rfl)), rfl, hnm⟩) (hw _ (List.mem_of_getElem? (i := 8) rfl)) (ty := .double) (by decide) rfl rfl (g := (mkF m 6 #[.val (.ref a), .val (.double dm), .second, .val (.ref b), .val (.ref vb)] [(.double dm), (.ref a)])) rfl rfl (hb hby d2_6)
  have F_makespanSeconds_a := F_makespanSeconds_a.same W2
  have E_a := E_a.wr W2
  have F_chargesUsd_a := F_chargesUsd_a.other W2 (Or.inr (slot_ne (Or.inr (hw _ (List.mem_of_getElem? (i := 25) rfl))) (Or.inr (hw _ (List.mem_of_getElem? (i := 23) rfl))) (by decide) (t := (.array .double)) (t' := .double) (by decide) (by decide)))
  have F_vmByTask_a := F_vmByTask_a.other W2 (Or.inr (slot_ne (Or.inr (hw _ (List.mem_of_getElem? (i := 27) rfl))) (Or.inr (hw _ (List.mem_of_getElem? (i := 23) rfl))) (by decide) (t := (.array .int)) (t' := .double) (by decide) (by decide)))
  have Kp := Kp.wr W2 (Or.inl (List.mem_of_getElem? (i := 0) rfl))
  have Nf := Fr.snoc X2 Nf g_a
  have Zs := Nat.le_trans Zs (Keep.of_wr W2).1
  have szr := Nat.le_trans szr (Keep.of_wr W2).1
  refine own_go (fun tQ kQ => st2 tQ kQ) ?_
  show own_End p e below _ (T2.setTop (mkF m 9 #[.val (.ref a), .val (.double dm), .second, .val (.ref b), .val (.ref vb)] []))
  refine own_go (fun tQ kQ => XS.aloadN X2.here hx rfl (hb hby d2_9) rfl rfl kQ) ?_
  show own_End p e below _ (T2.setTop (mkF m 10 #[.val (.ref a), .val (.double dm), .second, .val (.ref b), .val (.ref vb)] [(.ref a)]))
  refine own_go (fun tQ kQ => XS.aloadN X2.here hx rfl (hb hby d2_10) rfl rfl kQ) ?_
  show own_End p e below _ (T2.setTop (mkF m 11 #[.val (.ref a), .val (.double dm), .second, .val (.ref b), .val (.ref vb)] [(.ref b), (.ref a)]))
  obtain ⟨T3, h3, X3, e3, W3, st3⟩ := putF X2 hx hZ hown (host := "") (Or.inl (hw _ (List.mem_of_getElem? (i := 24) rfl))) Via.refl e2 F_chargesUsd_a E_a (Or.inr ⟨(hw _ (List.mem_of_getElem? (i := 25) rfl)), rfl, hnm⟩) (hw _ (List.mem_of_getElem? (i := 8) rfl)) (ty := (.array .double)) (by decide) rfl rfl (g := (mkF m 11 #[.val (.ref a), .val (.double dm), .second, .val (.ref b), .val (.ref vb)] [(.ref b), (.ref a)])) rfl rfl (hb hby d2_11)
  have F_chargesUsd_a := F_chargesUsd_a.same W3
  have E_a := E_a.wr W3
  have F_makespanSeconds_a := F_makespanSeconds_a.other W3 (Or.inr (slot_ne (Or.inr (hw _ (List.mem_of_getElem? (i := 23) rfl))) (Or.inr (hw _ (List.mem_of_getElem? (i := 25) rfl))) (by decide) (t := .double) (t' := (.array .double)) (by decide) (by decide)))
  have F_vmByTask_a := F_vmByTask_a.other W3 (Or.inr (slot_ne (Or.inr (hw _ (List.mem_of_getElem? (i := 27) rfl))) (Or.inr (hw _ (List.mem_of_getElem? (i := 25) rfl))) (by decide) (t := (.array .int)) (t' := (.array .double)) (by decide) (by decide)))
  have Kp := Kp.wr W3 (Or.inl (List.mem_of_getElem? (i := 0) rfl))
  have Nf := Fr.snoc X3 Nf g_a
  have Zs := Nat.le_trans Zs (Keep.of_wr W3).1
  have szr := Nat.le_trans szr (Keep.of_wr W3).1
  refine own_go (fun tQ kQ => st3 tQ kQ) ?_
  show own_End p e below _ (T3.setTop (mkF m 14 #[.val (.ref a), .val (.double dm), .second, .val (.ref b), .val (.ref vb)] []))
  refine own_go (fun tQ kQ => XS.aloadN X3.here hx rfl (hb hby d2_14) rfl rfl kQ) ?_
  show own_End p e below _ (T3.setTop (mkF m 15 #[.val (.ref a), .val (.double dm), .second, .val (.ref b), .val (.ref vb)] [(.ref a)]))
  refine own_go (fun tQ kQ => XS.aload X3.here hx rfl (hb hby d2_15) rfl rfl kQ) ?_
  show own_End p e below _ (T3.setTop (mkF m 17 #[.val (.ref a), .val (.double dm), .second, .val (.ref b), .val (.ref vb)] [(.ref vb), (.ref a)]))
  obtain ⟨T4, h4, X4, e4, W4, st4⟩ := putF X3 hx hZ hown (host := "") (Or.inl (hw _ (List.mem_of_getElem? (i := 26) rfl))) Via.refl e3 F_vmByTask_a E_a (Or.inr ⟨(hw _ (List.mem_of_getElem? (i := 27) rfl)), rfl, hnm⟩) (hw _ (List.mem_of_getElem? (i := 8) rfl)) (ty := (.array .int)) (by decide) rfl rfl (g := (mkF m 17 #[.val (.ref a), .val (.double dm), .second, .val (.ref b), .val (.ref vb)] [(.ref vb), (.ref a)])) rfl rfl (hb hby d2_17)
  have F_vmByTask_a := F_vmByTask_a.same W4
  have E_a := E_a.wr W4
  have F_makespanSeconds_a := F_makespanSeconds_a.other W4 (Or.inr (slot_ne (Or.inr (hw _ (List.mem_of_getElem? (i := 23) rfl))) (Or.inr (hw _ (List.mem_of_getElem? (i := 27) rfl))) (by decide) (t := .double) (t' := (.array .int)) (by decide) (by decide)))
  have F_chargesUsd_a := F_chargesUsd_a.other W4 (Or.inr (slot_ne (Or.inr (hw _ (List.mem_of_getElem? (i := 25) rfl))) (Or.inr (hw _ (List.mem_of_getElem? (i := 27) rfl))) (by decide) (t := (.array .double)) (t' := (.array .int)) (by decide) (by decide)))
  have Kp := Kp.wr W4 (Or.inl (List.mem_of_getElem? (i := 0) rfl))
  have Nf := Fr.snoc X4 Nf g_a
  have Zs := Nat.le_trans Zs (Keep.of_wr W4).1
  have szr := Nat.le_trans szr (Keep.of_wr W4).1
  refine own_go (fun tQ kQ => st4 tQ kQ) ?_
  show own_End p e below _ (T4.setTop (mkF m 20 #[.val (.ref a), .val (.double dm), .second, .val (.ref b), .val (.ref vb)] []))
  obtain ⟨fs, hr, hrun, hended, hW, hsame⟩ := X4.leave (v := none) (fun _ => rfl)
  refine ⟨_, _, X4.returnOut hx Bd.returns (hb hby d2_20) hr, hrun, hended, _, _, rfl, ?_, ⟨_, rfl⟩, hW, hsame.mono (by decide) (by decide)⟩
  show Q2 Z a dm b vb h0 n0 _ T4.heap _
  rw [e4]
  exact ⟨rfl, Nf, Kp, F_makespanSeconds_a, F_chargesUsd_a, F_vmByTask_a⟩
theorem os3_25 {z0 : Value} {z1 : Value} {z3 : Value} {z4 : Value} {z5 : Value} {s6 : Slot} {s7 : Slot} {v : UInt64} (h : own_Two s6 s7) : storeLocals #[.val z0, .val z1, .second, .val z3, .val z4, .val z5, s6, s7] 6 (.double v) = some #[.val z0, .val z1, .second, .val z3, .val z4, .val z5, .val (.double v), .second] := by
  rcases h with ⟨rfl, rfl⟩ | ⟨d, rfl, rfl⟩ | ⟨d, rfl, rfl⟩ <;> rfl
theorem d3_0 : decode prog_59_method_2_code 0 = .ok (.dconst 0, 1) := by decide +kernel
theorem d3_1 : decode prog_59_method_2_code 1 = .ok (.dstore_n 1, 1) := by decide +kernel
theorem d3_2 : decode prog_59_method_2_code 2 = .ok (.aload_n 0, 1) := by decide +kernel
theorem d3_3 : decode prog_59_method_2_code 3 = .ok (.getfield 13, 3) := by decide +kernel
theorem d3_6 : decode prog_59_method_2_code 6 = .ok (.astore_n 3, 1) := by decide +kernel
theorem d3_7 : decode prog_59_method_2_code 7 = .ok (.aload_n 3, 1) := by decide +kernel
theorem d3_8 : decode prog_59_method_2_code 8 = .ok (.arraylength, 1) := by decide +kernel
theorem d3_9 : decode prog_59_method_2_code 9 = .ok (.istore 4, 2) := by decide +kernel
theorem d3_11 : decode prog_59_method_2_code 11 = .ok (.iconst 0, 1) := by decide +kernel
theorem d3_12 : decode prog_59_method_2_code 12 = .ok (.istore 5, 2) := by decide +kernel
theorem d3_14 : decode prog_59_method_2_code 14 = .ok (.iload 5, 2) := by decide +kernel
theorem d3_16 : decode prog_59_method_2_code 16 = .ok (.iload 4, 2) := by decide +kernel
theorem d3_18 : decode prog_59_method_2_code 18 = .ok (.if_icmp .ge 20, 3) := by decide +kernel
theorem d3_21 : decode prog_59_method_2_code 21 = .ok (.aload_n 3, 1) := by decide +kernel
theorem d3_22 : decode prog_59_method_2_code 22 = .ok (.iload 5, 2) := by decide +kernel
theorem d3_24 : decode prog_59_method_2_code 24 = .ok (.daload, 1) := by decide +kernel
theorem d3_25 : decode prog_59_method_2_code 25 = .ok (.dstore 6, 2) := by decide +kernel
theorem d3_27 : decode prog_59_method_2_code 27 = .ok (.dload_n 1, 1) := by decide +kernel
theorem d3_28 : decode prog_59_method_2_code 28 = .ok (.dload 6, 2) := by decide +kernel
theorem d3_30 : decode prog_59_method_2_code 30 = .ok (.dadd, 1) := by decide +kernel
theorem d3_31 : decode prog_59_method_2_code 31 = .ok (.dstore_n 1, 1) := by decide +kernel
theorem d3_32 : decode prog_59_method_2_code 32 = .ok (.iinc 5 1, 3) := by decide +kernel
theorem d3_35 : decode prog_59_method_2_code 35 = .ok (.goto (-21), 3) := by decide +kernel
theorem d3_38 : decode prog_59_method_2_code 38 = .ok (.dload_n 1, 1) := by decide +kernel
theorem d3_39 : decode prog_59_method_2_code 39 = .ok (.dreturn, 1) := by decide +kernel
theorem ef_3 (m : MethodId) (x0 : Addr) : entryFrame m #[(.ref x0)] 8 = mkF m 0 #[.val (.ref x0), .unset, .unset, .unset, .unset, .unset, .unset, .unset] [] := by first | (simp [entryFrame, mkF, argsToLocals, Value.category]; done) | rfl
def Q3 (Z : State) (a : Addr) (b : Addr) (z : Int32) (N : Nat) (ks : Nat → Int64) (h0 : Heap) (n0 : Nat) (v : Option Value) (h : Heap) (L : List Loc) : Prop := v = some (.double (own_acc ks N)) ∧ Fr n0 L ∧ h = h0
def P3 (Z : State) (a : Addr) (b : Addr) (z : Int32) (N : Nat) (ks : Nat → Int64) (h0 : Heap) (n0 : Nat) (s : State) (oQ : Outcome) (U : State) : Prop := ∃ v L, oQ = .returned v ∧ Q3 Z a b z N ks h0 n0 v U.heap L ∧ FrameEnd s oQ U L ({ frames := 0, cells := 0, slots := 0, locals := 0 } : Room).cells ({ frames := 0, cells := 0, slots := 0, locals := 0 } : Room).slots
set_option maxRecDepth 65536 in
set_option maxHeartbeats 40000000 in
theorem rm3 (l : Launch) (Z : State) (a0 : Array Value) (hw : ∀ d ∈ tables_1, d.before a0 Z = true) (ws : List Jvm.Cond) (a : Addr) (b : Addr) (z : Int32) (N : Nat) (ks : Nat → Int64) (h0 : Heap) (n0 : Nat) (Z0 : n0 ≤ h0.size) (F_chargesUsd_a : Fld Z h0 a "com/example/tasks_to_slots/taskstoslots/model/PlanLayout$Totals" "chargesUsd" "[D" (.ref b)) (V_b : own_Ar Z h0 b .double z (fun j => .double (own_q (ks j)))) (hz : z.toInt = N) (hN : N ≤ 4) (hks : ∀ j, own_ok (ks j)) :
    MetFree l (⟨"com/example/tasks_to_slots/taskstoslots/model/PlanLayout$Totals", "costUsd", "()D"⟩ : MethodName) (head1 (Jvm.Cond.code (⟨"com/example/tasks_to_slots/taskstoslots/model/PlanLayout$Totals", "costUsd", "()D"⟩ : MethodName) prog_59_method_2_code 8 (some .double) :: ws) ({ frames := 0, cells := 0, slots := 0, locals := 0 } : Room)) (fun aQ U => aQ = #[(.ref a)] ∧ Z.Warmed39 U.vm ∧ U.heap = h0) (fun _ _ _ _ _ => True) (fun _ U oQ U' => ∃ v L, oQ = .returned v ∧ Q3 Z a b z N ks h0 n0 v U'.heap L ∧ FrameEnd U oQ U' L ({ frames := 0, cells := 0, slots := 0, locals := 0 } : Room).cells ({ frames := 0, cells := 0, slots := 0, locals := 0 } : Room).slots) := by
  refine MetFree.of_bodySF (plainFor_of_name pn_3) hisR ?_
  intro p e s m args below meth c s₁ Bd hml0 hP hK
  obtain ⟨rfl, hZ, hh⟩ := hP
  have hx := Bd.exec
  have hby := Bd.bytes
  have hml : c.maxLocals = 8 := hml0
  have hown : s.vm.findClass "com/example/tasks_to_slots/taskstoslots/model/PlanLayout$Totals" = some m.cls := findClass_of_methodNamed Bd.named
  have hnm := (name_of_methodNamed Bd.named Bd.method).1
  have X0 : Stand p l e ({ frames := 0, cells := 0, slots := 0, locals := 0 } : Room) s m #[(.ref a)] below meth c s₁ [] 0 0 := Stand.of_body Bd
  have e0 : s₁.heap = h0 := by rw [← hh, Bd.state]; rfl
  have Nf := Fr.nil n0
  have Zs : n0 ≤ h0.size := Z0
  have Kp : Keep h0 h0 [] := Keep.refl _ _
  have szr : h0.size ≤ h0.size := Nat.le_refl _
  show own_End p e below (P3 Z a b z N ks h0 n0 s) (s₁.setTop (entryFrame m #[(.ref a)] 8))
  rw [ef_3]
  have lp : ∀ (k : Nat) (i : Int32) (n : Nat) (s6 : Slot) (s7 : Slot) (T : State) (locs : List Loc) (h : Heap) (X : Stand p l e ({ frames := 0, cells := 0, slots := 0, locals := 0 } : Room) s m #[(.ref a)] below meth c T locs 0 0) (eT : T.heap = h) (Nf : Fr n0 locs) (Zs : n0 ≤ h.size) (Kp : Keep h0 h []) (szr : h0.size ≤ h.size) (V_b : own_Ar Z h b .double z (fun j => .double (own_q (ks j)))) (he : h = h0) (hi : i.toInt = n) (hk : n + k = N) (hs6 : own_Two s6 s7), own_End p e below (P3 Z a b z N ks h0 n0 s) (T.setTop (mkF m 14 #[.val (.ref a), .val (.double (own_acc ks n)), .second, .val (.ref b), .val (.int z), .val (.int i), s6, s7] [])) := by
    intro k
    induction k with
    | zero =>
      intro i n s6 s7 T locs h X eT Nf Zs Kp szr V_b he hi hk hs6
      refine own_go (fun tQ kQ => XS.iload X.here hx rfl (hb hby d3_14) rfl kQ) ?_
      show own_End p e below _ (T.setTop (mkF m 16 #[.val (.ref a), .val (.double (own_acc ks n)), .second, .val (.ref b), .val (.int z), .val (.int i), s6, s7] [(.int i)]))
      refine own_go (fun tQ kQ => XS.iload X.here hx rfl (hb hby d3_16) rfl kQ) ?_
      show own_End p e below _ (T.setTop (mkF m 18 #[.val (.ref a), .val (.double (own_acc ks n)), .second, .val (.ref b), .val (.int z), .val (.int i), s6, s7] [(.int z), (.int i)]))
      refine own_go (fun tQ kQ => XS.icmpYes X.here hx rfl (pc0 := 18) (pc' := 38) rfl (hb hby d3_18) rfl (flt (fun q => absurd ((own_lt_of hi hz).mp q) (by omega))).2.1 (by decide) (by decide) kQ) ?_
      show own_End p e below _ (T.setTop (mkF m 38 #[.val (.ref a), .val (.double (own_acc ks n)), .second, .val (.ref b), .val (.int z), .val (.int i), s6, s7] []))
      refine own_go (fun tQ kQ => XS.dloadN X.here hx rfl (hb hby d3_38) rfl kQ) ?_
      show own_End p e below _ (T.setTop (mkF m 39 #[.val (.ref a), .val (.double (own_acc ks n)), .second, .val (.ref b), .val (.int z), .val (.int i), s6, s7] [(.double (own_acc ks n))]))
      have hnN : n = N := by omega
      obtain ⟨fs, hr, hrun, hended, hW, hsame⟩ := X.leave (v := some (.double (own_acc ks n))) (fun h => by rw [Bd.returns] at h; cases h)
      refine ⟨_, _, ?_, hrun, hended, _, _, rfl, ?_, ⟨_, rfl⟩, hW, hsame.mono (by decide) (by decide)⟩
      · exact (by
          jvm_step X.here [X.here.top, hx, (hb hby d3_39), X.method', Bd.returns, Value.isRef, FieldType.isReference, narrow]
          first | (intro acts; rw [hr _ acts rfl rfl rfl]) | rw [hr _ _ rfl rfl rfl]
          exact Steps.refl _)
      · show Q3 Z a b z N ks h0 n0 _ T.heap _
        rw [eT]
        exact ⟨by rw [hnN], Nf, he⟩
    | succ k ih =>
      intro i n s6 s7 T locs h X eT Nf Zs Kp szr V_b he hi hk hs6
      refine own_go (fun tQ kQ => XS.iload X.here hx rfl (hb hby d3_14) rfl kQ) ?_
      show own_End p e below _ (T.setTop (mkF m 16 #[.val (.ref a), .val (.double (own_acc ks n)), .second, .val (.ref b), .val (.int z), .val (.int i), s6, s7] [(.int i)]))
      refine own_go (fun tQ kQ => XS.iload X.here hx rfl (hb hby d3_16) rfl kQ) ?_
      show own_End p e below _ (T.setTop (mkF m 18 #[.val (.ref a), .val (.double (own_acc ks n)), .second, .val (.ref b), .val (.int z), .val (.int i), s6, s7] [(.int z), (.int i)]))
      refine own_go (fun tQ kQ => XS.icmpNo X.here hx rfl (hb hby d3_18) rfl (tlt ((own_lt_of hi hz).mpr (by omega))).2.1 kQ) ?_
      show own_End p e below _ (T.setTop (mkF m 21 #[.val (.ref a), .val (.double (own_acc ks n)), .second, .val (.ref b), .val (.int z), .val (.int i), s6, s7] []))
      refine own_go (fun tQ kQ => XS.aloadN X.here hx rfl (hb hby d3_21) rfl rfl kQ) ?_
      show own_End p e below _ (T.setTop (mkF m 22 #[.val (.ref a), .val (.double (own_acc ks n)), .second, .val (.ref b), .val (.int z), .val (.int i), s6, s7] [(.ref b)]))
      refine own_go (fun tQ kQ => XS.iload X.here hx rfl (hb hby d3_22) rfl kQ) ?_
      show own_End p e below _ (T.setTop (mkF m 24 #[.val (.ref a), .val (.double (own_acc ks n)), .second, .val (.ref b), .val (.int z), .val (.int i), s6, s7] [(.int i), (.ref b)]))
      obtain ⟨cl1, Ar1, S1, M1, H1⟩ := id V_b
      have hin1 := inb_of (j := i) S1 ⟨own_nn hi, (own_lt_of hi hz).mpr (by omega)⟩
      refine own_go (fun tQ kQ => X.daload hx (j := i) (v := (.double (own_q (ks i.toNatClampNeg)))) (by rw [eT]; exact Ar1.1) (State.isArrayOf_alike hZ.alike Ar1.2.1) Ar1.2.2 hin1 (H1 _ (own_in S1 hin1)) (g := (mkF m 24 #[.val (.ref a), .val (.double (own_acc ks n)), .second, .val (.ref b), .val (.int z), .val (.int i), s6, s7] [(.int i), (.ref b)])) rfl rfl (hb hby d3_24) _ kQ) ?_
      show own_End p e below _ (T.setTop (mkF m 25 #[.val (.ref a), .val (.double (own_acc ks n)), .second, .val (.ref b), .val (.int z), .val (.int i), s6, s7] [(.double (own_q (ks i.toNatClampNeg)))]))
      rw [own_clamp hi]
      show own_End p e below _ (T.setTop (mkF m 25 #[.val (.ref a), .val (.double (own_acc ks n)), .second, .val (.ref b), .val (.int z), .val (.int i), s6, s7] [(.double (own_q (ks n)))]))
      refine own_go (fun tQ kQ => XS.dstore X.here hx rfl (hb hby d3_25) rfl (l' := #[.val (.ref a), .val (.double (own_acc ks n)), .second, .val (.ref b), .val (.int z), .val (.int i), .val (.double (own_q (ks n))), .second]) (os3_25 hs6) kQ) ?_
      show own_End p e below _ (T.setTop (mkF m 27 #[.val (.ref a), .val (.double (own_acc ks n)), .second, .val (.ref b), .val (.int z), .val (.int i), .val (.double (own_q (ks n))), .second] []))
      refine own_go (fun tQ kQ => XS.dloadN X.here hx rfl (hb hby d3_27) rfl kQ) ?_
      show own_End p e below _ (T.setTop (mkF m 28 #[.val (.ref a), .val (.double (own_acc ks n)), .second, .val (.ref b), .val (.int z), .val (.int i), .val (.double (own_q (ks n))), .second] [(.double (own_acc ks n))]))
      refine own_go (fun tQ kQ => XS.dload X.here hx rfl (hb hby d3_28) rfl kQ) ?_
      show own_End p e below _ (T.setTop (mkF m 30 #[.val (.ref a), .val (.double (own_acc ks n)), .second, .val (.ref b), .val (.int z), .val (.int i), .val (.double (own_q (ks n))), .second] [(.double (own_q (ks n))), (.double (own_acc ks n))]))
      refine own_go (fun tQ kQ => XS.daddS X.here hx rfl (hb hby d3_30) rfl (own_acc_nn ks hks n (by omega)) rfl kQ) ?_
      show own_End p e below _ (T.setTop (mkF m 31 #[.val (.ref a), .val (.double (own_acc ks n)), .second, .val (.ref b), .val (.int z), .val (.int i), .val (.double (own_q (ks n))), .second] [(.double (FP.dadd (own_acc ks n) (own_q (ks n))))]))
      refine own_go (fun tQ kQ => XS.dstoreN X.here hx rfl (hb hby d3_31) rfl (l' := #[.val (.ref a), .val (.double (FP.dadd (own_acc ks n) (own_q (ks n)))), .second, .val (.ref b), .val (.int z), .val (.int i), .val (.double (own_q (ks n))), .second]) rfl kQ) ?_
      show own_End p e below _ (T.setTop (mkF m 32 #[.val (.ref a), .val (.double (FP.dadd (own_acc ks n) (own_q (ks n)))), .second, .val (.ref b), .val (.int z), .val (.int i), .val (.double (own_q (ks n))), .second] []))
      refine own_go (fun tQ kQ => XS.iinc X.here hx rfl (hb hby d3_32) rfl (l' := #[.val (.ref a), .val (.double (FP.dadd (own_acc ks n) (own_q (ks n)))), .second, .val (.ref b), .val (.int z), .val (.int (i + (1 : Int32))), .val (.double (own_q (ks n))), .second]) rfl kQ) ?_
      show own_End p e below _ (T.setTop (mkF m 35 #[.val (.ref a), .val (.double (FP.dadd (own_acc ks n) (own_q (ks n)))), .second, .val (.ref b), .val (.int z), .val (.int (i + (1 : Int32))), .val (.double (own_q (ks n))), .second] []))
      refine own_go (fun tQ kQ => XS.goto X.here hx rfl (pc0 := 35) (pc' := 14) rfl (hb hby d3_35) (by decide) (by decide) kQ) ?_
      show own_End p e below _ (T.setTop (mkF m 14 #[.val (.ref a), .val (.double (FP.dadd (own_acc ks n) (own_q (ks n)))), .second, .val (.ref b), .val (.int z), .val (.int (i + (1 : Int32))), .val (.double (own_q (ks n))), .second] []))
      exact ih (i + (1 : Int32)) (n + 1) (.val (.double (own_q (ks n)))) .second T _ h X eT Nf Zs Kp szr V_b he (own_inc hi (by omega)) (by omega) (Or.inr (Or.inl ⟨_, rfl, rfl⟩))
  refine own_go (fun tQ kQ => XS.dconst0 X0.here hx rfl (hb hby d3_0) rfl kQ) ?_
  show own_End p e below _ (s₁.setTop (mkF m 1 #[.val (.ref a), .unset, .unset, .unset, .unset, .unset, .unset, .unset] [(.double (0 : UInt64))]))
  refine own_go (fun tQ kQ => XS.dstoreN X0.here hx rfl (hb hby d3_1) rfl (l' := #[.val (.ref a), .val (.double (0 : UInt64)), .second, .unset, .unset, .unset, .unset, .unset]) rfl kQ) ?_
  show own_End p e below _ (s₁.setTop (mkF m 2 #[.val (.ref a), .val (.double (0 : UInt64)), .second, .unset, .unset, .unset, .unset, .unset] []))
  refine own_go (fun tQ kQ => XS.aloadN X0.here hx rfl (hb hby d3_2) rfl rfl kQ) ?_
  show own_End p e below _ (s₁.setTop (mkF m 3 #[.val (.ref a), .val (.double (0 : UInt64)), .second, .unset, .unset, .unset, .unset, .unset] [(.ref a)]))
  obtain ⟨T2, X2, e2, st2⟩ := getF X0 hx hZ hown (host := "") (Or.inl (hw _ (List.mem_of_getElem? (i := 24) rfl))) Via.refl e0 F_chargesUsd_a (g := (mkF m 3 #[.val (.ref a), .val (.double (0 : UInt64)), .second, .unset, .unset, .unset, .unset, .unset] [(.ref a)])) rfl rfl (hb hby d3_3)
  refine own_go (fun tQ kQ => st2 tQ kQ) ?_
  show own_End p e below _ (T2.setTop (mkF m 6 #[.val (.ref a), .val (.double (0 : UInt64)), .second, .unset, .unset, .unset, .unset, .unset] [(.ref b)]))
  refine own_go (fun tQ kQ => XS.astoreN X2.here hx rfl (hb hby d3_6) rfl rfl (l' := #[.val (.ref a), .val (.double (0 : UInt64)), .second, .val (.ref b), .unset, .unset, .unset, .unset]) rfl kQ) ?_
  show own_End p e below _ (T2.setTop (mkF m 7 #[.val (.ref a), .val (.double (0 : UInt64)), .second, .val (.ref b), .unset, .unset, .unset, .unset] []))
  refine own_go (fun tQ kQ => XS.aloadN X2.here hx rfl (hb hby d3_7) rfl rfl kQ) ?_
  show own_End p e below _ (T2.setTop (mkF m 8 #[.val (.ref a), .val (.double (0 : UInt64)), .second, .val (.ref b), .unset, .unset, .unset, .unset] [(.ref b)]))
  obtain ⟨cl3, Ar3, S3, M3, H3⟩ := id V_b
  refine own_go (fun tQ kQ => X2.arraylength hx (by rw [e2]; exact Ar3.1) (State.isArrayOf_alike hZ.alike Ar3.2.1) (g := (mkF m 8 #[.val (.ref a), .val (.double (0 : UInt64)), .second, .val (.ref b), .unset, .unset, .unset, .unset] [(.ref b)])) rfl rfl (hb hby d3_8) _ kQ) ?_
  rw [len_of S3 M3]
  show own_End p e below _ (T2.setTop (mkF m 9 #[.val (.ref a), .val (.double (0 : UInt64)), .second, .val (.ref b), .unset, .unset, .unset, .unset] [(.int z)]))
  refine own_go (fun tQ kQ => XS.istore X2.here hx rfl (hb hby d3_9) rfl (l' := #[.val (.ref a), .val (.double (0 : UInt64)), .second, .val (.ref b), .val (.int z), .unset, .unset, .unset]) rfl kQ) ?_
  show own_End p e below _ (T2.setTop (mkF m 11 #[.val (.ref a), .val (.double (0 : UInt64)), .second, .val (.ref b), .val (.int z), .unset, .unset, .unset] []))
  refine own_go (fun tQ kQ => XS.iconst X2.here hx rfl (hb hby d3_11) kQ) ?_
  show own_End p e below _ (T2.setTop (mkF m 12 #[.val (.ref a), .val (.double (0 : UInt64)), .second, .val (.ref b), .val (.int z), .unset, .unset, .unset] [(.int (0 : Int32))]))
  refine own_go (fun tQ kQ => XS.istore X2.here hx rfl (hb hby d3_12) rfl (l' := #[.val (.ref a), .val (.double (0 : UInt64)), .second, .val (.ref b), .val (.int z), .val (.int (0 : Int32)), .unset, .unset]) rfl kQ) ?_
  show own_End p e below _ (T2.setTop (mkF m 14 #[.val (.ref a), .val (.double (0 : UInt64)), .second, .val (.ref b), .val (.int z), .val (.int (0 : Int32)), .unset, .unset] []))
  exact lp N (0 : Int32) 0 .unset .unset T2 _ h0 X2 e2 Nf Zs Kp szr V_b rfl (by decide) (by omega) (Or.inl ⟨rfl, rfl⟩)
theorem pd_4 : parseMethodDescriptor "(IJJJJ)[D" = some ⟨[.int, .long, .long, .long, .long], some (.array .double)⟩ := by decide +kernel
theorem pd_5 : parseMethodDescriptor "(D[D[I)V" = some ⟨[.double, (.array .double), (.array .int)], none⟩ := by decide +kernel
theorem pd_6 : parseMethodDescriptor "()D" = some ⟨[], some .double⟩ := by decide +kernel
theorem ef_0 (m : MethodId) (x0 : Int32) (x1 : Int32) (x2 : Int32) (x3 : Int32) (x4 : Int32) : entryFrame m #[(.int x0), (.int x1), (.int x2), (.int x3), (.int x4)] maxLocals = mkF m 0 #[.val (.int x0), .val (.int x1), .val (.int x2), .val (.int x3), .val (.int x4), .unset, .unset, .unset, .unset, .unset, .unset, .unset, .unset, .unset, .unset, .unset, .unset, .unset] [] := by first | (simp [entryFrame, mkF, argsToLocals, Value.category, maxLocals]; done) | rfl
def Q0 (Z : State) (i0 : Int32) (i1 : Int32) (i2 : Int32) (i3 : Int32) (i4 : Int32) (h0 : Heap) (n0 : Nat) (v : Option Value) (h : Heap) (L : List Loc) : Prop := v = some (.int 1) ∧ Fr n0 L
def P0 (Z : State) (i0 : Int32) (i1 : Int32) (i2 : Int32) (i3 : Int32) (i4 : Int32) (h0 : Heap) (n0 : Nat) (s : State) (oQ : Outcome) (U : State) : Prop := ∃ v L, oQ = .returned v ∧ Q0 Z i0 i1 i2 i3 i4 h0 n0 v U.heap L ∧ FrameEnd s oQ U L 3 7
set_option maxRecDepth 65536 in
set_option maxHeartbeats 40000000 in
theorem rm0 (l : Launch) (Z : State) (a0 : Array Value) (hw : ∀ d ∈ tables_1, d.before a0 Z = true) (ws : List Jvm.Cond) (i0 : Int32) (i1 : Int32) (i2 : Int32) (i3 : Int32) (i4 : Int32) (h0 : Heap) (n0 : Nat) (Z0 : n0 ≤ h0.size)  :
    MetFree l x (head1 (Jvm.Cond.code x code maxLocals ret :: ws) room_1) (fun aQ U => aQ = #[(.int i0), (.int i1), (.int i2), (.int i3), (.int i4)] ∧ Z.Warmed39 U.vm ∧ U.heap = h0) (fun _ _ _ _ _ => True) (fun _ U oQ U' => ∃ v L, oQ = .returned v ∧ Q0 Z i0 i1 i2 i3 i4 h0 n0 v U'.heap L ∧ FrameEnd U oQ U' L 3 7) := by
  refine MetFree.of_bodySF (plainFor_of_name pn_0) hisR ?_
  intro p e s m args below meth c s₁ Bd hml0 hP hK
  obtain ⟨rfl, hZ, hh⟩ := hP
  have hx := Bd.exec
  have hby := Bd.bytes
  have hml : c.maxLocals = 18 := hml0
  have hown : s.vm.findClass "com/example/tasks_to_slots/taskstoslots/model/TotalsCostUsdPinLaw" = some m.cls := findClass_of_methodNamed Bd.named
  have hnm := (name_of_methodNamed Bd.named Bd.method).1
  have X0 : Stand p l e room_1 s m #[(.int i0), (.int i1), (.int i2), (.int i3), (.int i4)] below meth c s₁ [] 0 0 := Stand.of_body Bd
  have e0 : s₁.heap = h0 := by rw [← hh, Bd.state]; rfl
  have Nf := Fr.nil n0
  have Zs : n0 ≤ h0.size := Z0
  have Kp : Keep h0 h0 [] := Keep.refl _ _
  have szr : h0.size ≤ h0.size := Nat.le_refl _
  show own_End p e below (P0 Z i0 i1 i2 i3 i4 h0 n0 s) (s₁.setTop (entryFrame m #[(.int i0), (.int i1), (.int i2), (.int i3), (.int i4)] maxLocals))
  rw [ef_0]
  refine own_go (fun tQ kQ => XS.iloadN X0.here hx rfl (hb hby at_0) rfl kQ) ?_
  show own_End p e below _ (s₁.setTop (mkF m 1 #[.val (.int i0), .val (.int i1), .val (.int i2), .val (.int i3), .val (.int i4), .unset, .unset, .unset, .unset, .unset, .unset, .unset, .unset, .unset, .unset, .unset, .unset, .unset] [(.int i0)]))
  refine own_go (fun tQ kQ => X0.ldcInt hx hown (mvT hZ (hw _ (List.mem_of_getElem? (i := 0) rfl))) (g := (mkF m 1 #[.val (.int i0), .val (.int i1), .val (.int i2), .val (.int i3), .val (.int i4), .unset, .unset, .unset, .unset, .unset, .unset, .unset, .unset, .unset, .unset, .unset, .unset, .unset] [(.int i0)])) rfl (hb hby at_1) _ kQ) ?_
  show own_End p e below _ (s₁.setTop (mkF m 3 #[.val (.int i0), .val (.int i1), .val (.int i2), .val (.int i3), .val (.int i4), .unset, .unset, .unset, .unset, .unset, .unset, .unset, .unset, .unset, .unset, .unset, .unset, .unset] [(.int (2147483647 : Int32)), (.int i0)]))
  refine own_go (fun tQ kQ => XS.iand X0.here hx rfl (hb hby at_3) rfl kQ) ?_
  show own_End p e below _ (s₁.setTop (mkF m 4 #[.val (.int i0), .val (.int i1), .val (.int i2), .val (.int i3), .val (.int i4), .unset, .unset, .unset, .unset, .unset, .unset, .unset, .unset, .unset, .unset, .unset, .unset, .unset] [(.int (i0 &&& (2147483647 : Int32)))]))
  refine own_go (fun tQ kQ => XS.iconst X0.here hx rfl (hb hby at_4) kQ) ?_
  show own_End p e below _ (s₁.setTop (mkF m 5 #[.val (.int i0), .val (.int i1), .val (.int i2), .val (.int i3), .val (.int i4), .unset, .unset, .unset, .unset, .unset, .unset, .unset, .unset, .unset, .unset, .unset, .unset, .unset] [(.int (5 : Int32)), (.int (i0 &&& (2147483647 : Int32)))]))
  refine own_go (fun tQ kQ => iremM (g := (mkF m 5 #[.val (.int i0), .val (.int i1), .val (.int i2), .val (.int i3), .val (.int i4), .unset, .unset, .unset, .unset, .unset, .unset, .unset, .unset, .unset, .unset, .unset, .unset, .unset] [(.int (5 : Int32)), (.int (i0 &&& (2147483647 : Int32)))])) X0 hx rfl (hb hby at_5) rfl (by decide) kQ) ?_
  show own_End p e below _ (s₁.setTop (mkF m 6 #[.val (.int i0), .val (.int i1), .val (.int i2), .val (.int i3), .val (.int i4), .unset, .unset, .unset, .unset, .unset, .unset, .unset, .unset, .unset, .unset, .unset, .unset, .unset] [(.int ((i0 &&& (2147483647 : Int32)) % (5 : Int32)))]))
  refine own_go (fun tQ kQ => XS.istore X0.here hx rfl (hb hby at_6) rfl (l' := #[.val (.int i0), .val (.int i1), .val (.int i2), .val (.int i3), .val (.int i4), .val (.int ((i0 &&& (2147483647 : Int32)) % (5 : Int32))), .unset, .unset, .unset, .unset, .unset, .unset, .unset, .unset, .unset, .unset, .unset, .unset]) rfl kQ) ?_
  show own_End p e below _ (s₁.setTop (mkF m 8 #[.val (.int i0), .val (.int i1), .val (.int i2), .val (.int i3), .val (.int i4), .val (.int ((i0 &&& (2147483647 : Int32)) % (5 : Int32))), .unset, .unset, .unset, .unset, .unset, .unset, .unset, .unset, .unset, .unset, .unset, .unset] []))
  refine own_go (fun tQ kQ => XS.iloadN X0.here hx rfl (hb hby at_8) rfl kQ) ?_
  show own_End p e below _ (s₁.setTop (mkF m 9 #[.val (.int i0), .val (.int i1), .val (.int i2), .val (.int i3), .val (.int i4), .val (.int ((i0 &&& (2147483647 : Int32)) % (5 : Int32))), .unset, .unset, .unset, .unset, .unset, .unset, .unset, .unset, .unset, .unset, .unset, .unset] [(.int i1)]))
  refine own_go (fun tQ kQ => XS.i2l X0.here hx rfl (hb hby at_9) rfl kQ) ?_
  show own_End p e below _ (s₁.setTop (mkF m 10 #[.val (.int i0), .val (.int i1), .val (.int i2), .val (.int i3), .val (.int i4), .val (.int ((i0 &&& (2147483647 : Int32)) % (5 : Int32))), .unset, .unset, .unset, .unset, .unset, .unset, .unset, .unset, .unset, .unset, .unset, .unset] [(.long (i1.toInt64))]))
  refine own_go (fun tQ kQ => X0.ldc2Long hx hown (mvT hZ (hw _ (List.mem_of_getElem? (i := 1) rfl))) (g := (mkF m 10 #[.val (.int i0), .val (.int i1), .val (.int i2), .val (.int i3), .val (.int i4), .val (.int ((i0 &&& (2147483647 : Int32)) % (5 : Int32))), .unset, .unset, .unset, .unset, .unset, .unset, .unset, .unset, .unset, .unset, .unset, .unset] [(.long (i1.toInt64))])) rfl (hb hby at_10) _ kQ) ?_
  show own_End p e below _ (s₁.setTop (mkF m 13 #[.val (.int i0), .val (.int i1), .val (.int i2), .val (.int i3), .val (.int i4), .val (.int ((i0 &&& (2147483647 : Int32)) % (5 : Int32))), .unset, .unset, .unset, .unset, .unset, .unset, .unset, .unset, .unset, .unset, .unset, .unset] [(.long (2147483647 : Int64)), (.long (i1.toInt64))]))
  refine own_go (fun tQ kQ => XS.land X0.here hx rfl (hb hby at_13) rfl kQ) ?_
  show own_End p e below _ (s₁.setTop (mkF m 14 #[.val (.int i0), .val (.int i1), .val (.int i2), .val (.int i3), .val (.int i4), .val (.int ((i0 &&& (2147483647 : Int32)) % (5 : Int32))), .unset, .unset, .unset, .unset, .unset, .unset, .unset, .unset, .unset, .unset, .unset, .unset] [(.long ((i1.toInt64) &&& (2147483647 : Int64)))]))
  refine own_go (fun tQ kQ => XS.lstore X0.here hx rfl (hb hby at_14) rfl (l' := #[.val (.int i0), .val (.int i1), .val (.int i2), .val (.int i3), .val (.int i4), .val (.int ((i0 &&& (2147483647 : Int32)) % (5 : Int32))), .val (.long ((i1.toInt64) &&& (2147483647 : Int64))), .second, .unset, .unset, .unset, .unset, .unset, .unset, .unset, .unset, .unset, .unset]) rfl kQ) ?_
  show own_End p e below _ (s₁.setTop (mkF m 16 #[.val (.int i0), .val (.int i1), .val (.int i2), .val (.int i3), .val (.int i4), .val (.int ((i0 &&& (2147483647 : Int32)) % (5 : Int32))), .val (.long ((i1.toInt64) &&& (2147483647 : Int64))), .second, .unset, .unset, .unset, .unset, .unset, .unset, .unset, .unset, .unset, .unset] []))
  refine own_go (fun tQ kQ => XS.iloadN X0.here hx rfl (hb hby at_16) rfl kQ) ?_
  show own_End p e below _ (s₁.setTop (mkF m 17 #[.val (.int i0), .val (.int i1), .val (.int i2), .val (.int i3), .val (.int i4), .val (.int ((i0 &&& (2147483647 : Int32)) % (5 : Int32))), .val (.long ((i1.toInt64) &&& (2147483647 : Int64))), .second, .unset, .unset, .unset, .unset, .unset, .unset, .unset, .unset, .unset, .unset] [(.int i2)]))
  refine own_go (fun tQ kQ => XS.i2l X0.here hx rfl (hb hby at_17) rfl kQ) ?_
  show own_End p e below _ (s₁.setTop (mkF m 18 #[.val (.int i0), .val (.int i1), .val (.int i2), .val (.int i3), .val (.int i4), .val (.int ((i0 &&& (2147483647 : Int32)) % (5 : Int32))), .val (.long ((i1.toInt64) &&& (2147483647 : Int64))), .second, .unset, .unset, .unset, .unset, .unset, .unset, .unset, .unset, .unset, .unset] [(.long (i2.toInt64))]))
  refine own_go (fun tQ kQ => X0.ldc2Long hx hown (mvT hZ (hw _ (List.mem_of_getElem? (i := 1) rfl))) (g := (mkF m 18 #[.val (.int i0), .val (.int i1), .val (.int i2), .val (.int i3), .val (.int i4), .val (.int ((i0 &&& (2147483647 : Int32)) % (5 : Int32))), .val (.long ((i1.toInt64) &&& (2147483647 : Int64))), .second, .unset, .unset, .unset, .unset, .unset, .unset, .unset, .unset, .unset, .unset] [(.long (i2.toInt64))])) rfl (hb hby at_18) _ kQ) ?_
  show own_End p e below _ (s₁.setTop (mkF m 21 #[.val (.int i0), .val (.int i1), .val (.int i2), .val (.int i3), .val (.int i4), .val (.int ((i0 &&& (2147483647 : Int32)) % (5 : Int32))), .val (.long ((i1.toInt64) &&& (2147483647 : Int64))), .second, .unset, .unset, .unset, .unset, .unset, .unset, .unset, .unset, .unset, .unset] [(.long (2147483647 : Int64)), (.long (i2.toInt64))]))
  refine own_go (fun tQ kQ => XS.land X0.here hx rfl (hb hby at_21) rfl kQ) ?_
  show own_End p e below _ (s₁.setTop (mkF m 22 #[.val (.int i0), .val (.int i1), .val (.int i2), .val (.int i3), .val (.int i4), .val (.int ((i0 &&& (2147483647 : Int32)) % (5 : Int32))), .val (.long ((i1.toInt64) &&& (2147483647 : Int64))), .second, .unset, .unset, .unset, .unset, .unset, .unset, .unset, .unset, .unset, .unset] [(.long ((i2.toInt64) &&& (2147483647 : Int64)))]))
  refine own_go (fun tQ kQ => XS.lstore X0.here hx rfl (hb hby at_22) rfl (l' := #[.val (.int i0), .val (.int i1), .val (.int i2), .val (.int i3), .val (.int i4), .val (.int ((i0 &&& (2147483647 : Int32)) % (5 : Int32))), .val (.long ((i1.toInt64) &&& (2147483647 : Int64))), .second, .val (.long ((i2.toInt64) &&& (2147483647 : Int64))), .second, .unset, .unset, .unset, .unset, .unset, .unset, .unset, .unset]) rfl kQ) ?_
  show own_End p e below _ (s₁.setTop (mkF m 24 #[.val (.int i0), .val (.int i1), .val (.int i2), .val (.int i3), .val (.int i4), .val (.int ((i0 &&& (2147483647 : Int32)) % (5 : Int32))), .val (.long ((i1.toInt64) &&& (2147483647 : Int64))), .second, .val (.long ((i2.toInt64) &&& (2147483647 : Int64))), .second, .unset, .unset, .unset, .unset, .unset, .unset, .unset, .unset] []))
  refine own_go (fun tQ kQ => XS.iloadN X0.here hx rfl (hb hby at_24) rfl kQ) ?_
  show own_End p e below _ (s₁.setTop (mkF m 25 #[.val (.int i0), .val (.int i1), .val (.int i2), .val (.int i3), .val (.int i4), .val (.int ((i0 &&& (2147483647 : Int32)) % (5 : Int32))), .val (.long ((i1.toInt64) &&& (2147483647 : Int64))), .second, .val (.long ((i2.toInt64) &&& (2147483647 : Int64))), .second, .unset, .unset, .unset, .unset, .unset, .unset, .unset, .unset] [(.int i3)]))
  refine own_go (fun tQ kQ => XS.i2l X0.here hx rfl (hb hby at_25) rfl kQ) ?_
  show own_End p e below _ (s₁.setTop (mkF m 26 #[.val (.int i0), .val (.int i1), .val (.int i2), .val (.int i3), .val (.int i4), .val (.int ((i0 &&& (2147483647 : Int32)) % (5 : Int32))), .val (.long ((i1.toInt64) &&& (2147483647 : Int64))), .second, .val (.long ((i2.toInt64) &&& (2147483647 : Int64))), .second, .unset, .unset, .unset, .unset, .unset, .unset, .unset, .unset] [(.long (i3.toInt64))]))
  refine own_go (fun tQ kQ => X0.ldc2Long hx hown (mvT hZ (hw _ (List.mem_of_getElem? (i := 1) rfl))) (g := (mkF m 26 #[.val (.int i0), .val (.int i1), .val (.int i2), .val (.int i3), .val (.int i4), .val (.int ((i0 &&& (2147483647 : Int32)) % (5 : Int32))), .val (.long ((i1.toInt64) &&& (2147483647 : Int64))), .second, .val (.long ((i2.toInt64) &&& (2147483647 : Int64))), .second, .unset, .unset, .unset, .unset, .unset, .unset, .unset, .unset] [(.long (i3.toInt64))])) rfl (hb hby at_26) _ kQ) ?_
  show own_End p e below _ (s₁.setTop (mkF m 29 #[.val (.int i0), .val (.int i1), .val (.int i2), .val (.int i3), .val (.int i4), .val (.int ((i0 &&& (2147483647 : Int32)) % (5 : Int32))), .val (.long ((i1.toInt64) &&& (2147483647 : Int64))), .second, .val (.long ((i2.toInt64) &&& (2147483647 : Int64))), .second, .unset, .unset, .unset, .unset, .unset, .unset, .unset, .unset] [(.long (2147483647 : Int64)), (.long (i3.toInt64))]))
  refine own_go (fun tQ kQ => XS.land X0.here hx rfl (hb hby at_29) rfl kQ) ?_
  show own_End p e below _ (s₁.setTop (mkF m 30 #[.val (.int i0), .val (.int i1), .val (.int i2), .val (.int i3), .val (.int i4), .val (.int ((i0 &&& (2147483647 : Int32)) % (5 : Int32))), .val (.long ((i1.toInt64) &&& (2147483647 : Int64))), .second, .val (.long ((i2.toInt64) &&& (2147483647 : Int64))), .second, .unset, .unset, .unset, .unset, .unset, .unset, .unset, .unset] [(.long ((i3.toInt64) &&& (2147483647 : Int64)))]))
  refine own_go (fun tQ kQ => XS.lstore X0.here hx rfl (hb hby at_30) rfl (l' := #[.val (.int i0), .val (.int i1), .val (.int i2), .val (.int i3), .val (.int i4), .val (.int ((i0 &&& (2147483647 : Int32)) % (5 : Int32))), .val (.long ((i1.toInt64) &&& (2147483647 : Int64))), .second, .val (.long ((i2.toInt64) &&& (2147483647 : Int64))), .second, .val (.long ((i3.toInt64) &&& (2147483647 : Int64))), .second, .unset, .unset, .unset, .unset, .unset, .unset]) rfl kQ) ?_
  show own_End p e below _ (s₁.setTop (mkF m 32 #[.val (.int i0), .val (.int i1), .val (.int i2), .val (.int i3), .val (.int i4), .val (.int ((i0 &&& (2147483647 : Int32)) % (5 : Int32))), .val (.long ((i1.toInt64) &&& (2147483647 : Int64))), .second, .val (.long ((i2.toInt64) &&& (2147483647 : Int64))), .second, .val (.long ((i3.toInt64) &&& (2147483647 : Int64))), .second, .unset, .unset, .unset, .unset, .unset, .unset] []))
  refine own_go (fun tQ kQ => XS.iload X0.here hx rfl (hb hby at_32) rfl kQ) ?_
  show own_End p e below _ (s₁.setTop (mkF m 34 #[.val (.int i0), .val (.int i1), .val (.int i2), .val (.int i3), .val (.int i4), .val (.int ((i0 &&& (2147483647 : Int32)) % (5 : Int32))), .val (.long ((i1.toInt64) &&& (2147483647 : Int64))), .second, .val (.long ((i2.toInt64) &&& (2147483647 : Int64))), .second, .val (.long ((i3.toInt64) &&& (2147483647 : Int64))), .second, .unset, .unset, .unset, .unset, .unset, .unset] [(.int i4)]))
  refine own_go (fun tQ kQ => XS.i2l X0.here hx rfl (hb hby at_34) rfl kQ) ?_
  show own_End p e below _ (s₁.setTop (mkF m 35 #[.val (.int i0), .val (.int i1), .val (.int i2), .val (.int i3), .val (.int i4), .val (.int ((i0 &&& (2147483647 : Int32)) % (5 : Int32))), .val (.long ((i1.toInt64) &&& (2147483647 : Int64))), .second, .val (.long ((i2.toInt64) &&& (2147483647 : Int64))), .second, .val (.long ((i3.toInt64) &&& (2147483647 : Int64))), .second, .unset, .unset, .unset, .unset, .unset, .unset] [(.long (i4.toInt64))]))
  refine own_go (fun tQ kQ => X0.ldc2Long hx hown (mvT hZ (hw _ (List.mem_of_getElem? (i := 1) rfl))) (g := (mkF m 35 #[.val (.int i0), .val (.int i1), .val (.int i2), .val (.int i3), .val (.int i4), .val (.int ((i0 &&& (2147483647 : Int32)) % (5 : Int32))), .val (.long ((i1.toInt64) &&& (2147483647 : Int64))), .second, .val (.long ((i2.toInt64) &&& (2147483647 : Int64))), .second, .val (.long ((i3.toInt64) &&& (2147483647 : Int64))), .second, .unset, .unset, .unset, .unset, .unset, .unset] [(.long (i4.toInt64))])) rfl (hb hby at_35) _ kQ) ?_
  show own_End p e below _ (s₁.setTop (mkF m 38 #[.val (.int i0), .val (.int i1), .val (.int i2), .val (.int i3), .val (.int i4), .val (.int ((i0 &&& (2147483647 : Int32)) % (5 : Int32))), .val (.long ((i1.toInt64) &&& (2147483647 : Int64))), .second, .val (.long ((i2.toInt64) &&& (2147483647 : Int64))), .second, .val (.long ((i3.toInt64) &&& (2147483647 : Int64))), .second, .unset, .unset, .unset, .unset, .unset, .unset] [(.long (2147483647 : Int64)), (.long (i4.toInt64))]))
  refine own_go (fun tQ kQ => XS.land X0.here hx rfl (hb hby at_38) rfl kQ) ?_
  show own_End p e below _ (s₁.setTop (mkF m 39 #[.val (.int i0), .val (.int i1), .val (.int i2), .val (.int i3), .val (.int i4), .val (.int ((i0 &&& (2147483647 : Int32)) % (5 : Int32))), .val (.long ((i1.toInt64) &&& (2147483647 : Int64))), .second, .val (.long ((i2.toInt64) &&& (2147483647 : Int64))), .second, .val (.long ((i3.toInt64) &&& (2147483647 : Int64))), .second, .unset, .unset, .unset, .unset, .unset, .unset] [(.long ((i4.toInt64) &&& (2147483647 : Int64)))]))
  refine own_go (fun tQ kQ => XS.lstore X0.here hx rfl (hb hby at_39) rfl (l' := #[.val (.int i0), .val (.int i1), .val (.int i2), .val (.int i3), .val (.int i4), .val (.int ((i0 &&& (2147483647 : Int32)) % (5 : Int32))), .val (.long ((i1.toInt64) &&& (2147483647 : Int64))), .second, .val (.long ((i2.toInt64) &&& (2147483647 : Int64))), .second, .val (.long ((i3.toInt64) &&& (2147483647 : Int64))), .second, .val (.long ((i4.toInt64) &&& (2147483647 : Int64))), .second, .unset, .unset, .unset, .unset]) rfl kQ) ?_
  show own_End p e below _ (s₁.setTop (mkF m 41 #[.val (.int i0), .val (.int i1), .val (.int i2), .val (.int i3), .val (.int i4), .val (.int ((i0 &&& (2147483647 : Int32)) % (5 : Int32))), .val (.long ((i1.toInt64) &&& (2147483647 : Int64))), .second, .val (.long ((i2.toInt64) &&& (2147483647 : Int64))), .second, .val (.long ((i3.toInt64) &&& (2147483647 : Int64))), .second, .val (.long ((i4.toInt64) &&& (2147483647 : Int64))), .second, .unset, .unset, .unset, .unset] []))
  have hka := own_mask i1
  generalize ((i1.toInt64) &&& (2147483647 : Int64)) = ka at hka ⊢
  have hkb := own_mask i2
  generalize ((i2.toInt64) &&& (2147483647 : Int64)) = kb at hkb ⊢
  have hkc := own_mask i3
  generalize ((i3.toInt64) &&& (2147483647 : Int64)) = kc at hkc ⊢
  have hkd := own_mask i4
  generalize ((i4.toInt64) &&& (2147483647 : Int64)) = kd at hkd ⊢
  obtain ⟨nz, hz, hn⟩ := own_five i0
  rw [← hz]
  show own_End p e below _ (s₁.setTop (mkF m 41 #[.val (.int i0), .val (.int i1), .val (.int i2), .val (.int i3), .val (.int i4), .val (.int nz), .val (.long ka), .second, .val (.long kb), .second, .val (.long kc), .second, .val (.long kd), .second, .unset, .unset, .unset, .unset] []))
  refine own_go (fun tQ kQ => XS.iload X0.here hx rfl (hb hby at_41) rfl kQ) ?_
  show own_End p e below _ (s₁.setTop (mkF m 43 #[.val (.int i0), .val (.int i1), .val (.int i2), .val (.int i3), .val (.int i4), .val (.int nz), .val (.long ka), .second, .val (.long kb), .second, .val (.long kc), .second, .val (.long kd), .second, .unset, .unset, .unset, .unset] [(.int nz)]))
  refine own_go (fun tQ kQ => XS.lload X0.here hx rfl (hb hby at_43) rfl kQ) ?_
  show own_End p e below _ (s₁.setTop (mkF m 45 #[.val (.int i0), .val (.int i1), .val (.int i2), .val (.int i3), .val (.int i4), .val (.int nz), .val (.long ka), .second, .val (.long kb), .second, .val (.long kc), .second, .val (.long kd), .second, .unset, .unset, .unset, .unset] [(.long ka), (.int nz)]))
  refine own_go (fun tQ kQ => XS.lload X0.here hx rfl (hb hby at_45) rfl kQ) ?_
  show own_End p e below _ (s₁.setTop (mkF m 47 #[.val (.int i0), .val (.int i1), .val (.int i2), .val (.int i3), .val (.int i4), .val (.int nz), .val (.long ka), .second, .val (.long kb), .second, .val (.long kc), .second, .val (.long kd), .second, .unset, .unset, .unset, .unset] [(.long kb), (.long ka), (.int nz)]))
  refine own_go (fun tQ kQ => XS.lload X0.here hx rfl (hb hby at_47) rfl kQ) ?_
  show own_End p e below _ (s₁.setTop (mkF m 49 #[.val (.int i0), .val (.int i1), .val (.int i2), .val (.int i3), .val (.int i4), .val (.int nz), .val (.long ka), .second, .val (.long kb), .second, .val (.long kc), .second, .val (.long kd), .second, .unset, .unset, .unset, .unset] [(.long kc), (.long kb), (.long ka), (.int nz)]))
  refine own_go (fun tQ kQ => XS.lload X0.here hx rfl (hb hby at_49) rfl kQ) ?_
  show own_End p e below _ (s₁.setTop (mkF m 51 #[.val (.int i0), .val (.int i1), .val (.int i2), .val (.int i3), .val (.int i4), .val (.int nz), .val (.long ka), .second, .val (.long kb), .second, .val (.long kc), .second, .val (.long kd), .second, .unset, .unset, .unset, .unset] [(.long kd), (.long kc), (.long kb), (.long ka), (.int nz)]))
  obtain ⟨_, _, ⟨T1, L1, k1, n1⟩, -, X1, ⟨Lc1, hQ1, l1, y1, z1⟩, st1⟩ := Jvm.LawKit.callS X0 hx (y := (⟨"com/example/tasks_to_slots/taskstoslots/model/TotalsCostUsdPinLaw", "charges", "(IJJJJ)[D"⟩ : MethodName)) hown (mvT hZ (hw _ (List.mem_of_getElem? (i := 2) rfl))) (mvT hZ (hw _ (List.mem_of_getElem? (i := 3) rfl))) (mvT hZ (hw _ (List.mem_of_getElem? (i := 4) rfl))) (mvT hZ (hw _ (List.mem_of_getElem? (i := 5) rfl))) (by decide) (backOf (W := 0) (rm1 l Z a0 hw [] nz ka kb kc kd h0 n0 Zs hka hkb hkc hkd hn) hZ (hw _ (List.mem_of_getElem? (i := 5) rfl)) (hw _ (List.mem_of_getElem? (i := 4) rfl)) (by decide) (by decide)) (g := (mkF m 51 #[.val (.int i0), .val (.int i1), .val (.int i2), .val (.int i3), .val (.int i4), .val (.int nz), .val (.long ka), .second, .val (.long kb), .second, .val (.long kc), .second, .val (.long kd), .second, .unset, .unset, .unset, .unset] [(.long kd), (.long kc), (.long kb), (.long ka), (.int nz)])) rfl (by rw [hml]; rfl) (argsL := [(.int nz), (.long ka), (.long kb), (.long kc), (.long kd)]) (rest := []) (lenOf pd_4 rfl) rfl (by show 2 * 0 + _ ≤ _; exact Nat.le_of_eq rfl) (hb hby at_51) (fun _ _ => ⟨rfl, e0, (Nat.le_of_ble_eq_true rfl), (Nat.le_of_ble_eq_true rfl)⟩)
  dsimp only [Pt.U, Pt.locs, Pt.cells, Pt.slots] at X1 l1 y1 z1 st1 hQ1
  subst l1 y1 z1
  obtain ⟨b, rfl, N1q, K1, hb1, V_b⟩ := hQ1
  have Nf := Fr.app Nf N1q
  have g_b : n0 ≤ b := Nat.le_trans Zs hb1
  have sz_b : h0.size ≤ b := Nat.le_trans szr hb1
  have Kp := Kp.trans K1 all0
  have Zs := Nat.le_trans Zs K1.1
  have szr := Nat.le_trans szr K1.1
  refine own_go (fun tQ kQ => st1 tQ kQ) ?_
  show own_End p e below _ (T1.setTop (mkF m 54 #[.val (.int i0), .val (.int i1), .val (.int i2), .val (.int i3), .val (.int i4), .val (.int nz), .val (.long ka), .second, .val (.long kb), .second, .val (.long kc), .second, .val (.long kd), .second, .unset, .unset, .unset, .unset] [(.ref b)]))
  refine own_go (fun tQ kQ => XS.astore X1.here hx rfl (hb hby at_54) rfl rfl (l' := #[.val (.int i0), .val (.int i1), .val (.int i2), .val (.int i3), .val (.int i4), .val (.int nz), .val (.long ka), .second, .val (.long kb), .second, .val (.long kc), .second, .val (.long kd), .second, .val (.ref b), .unset, .unset, .unset]) rfl kQ) ?_
  show own_End p e below _ (T1.setTop (mkF m 56 #[.val (.int i0), .val (.int i1), .val (.int i2), .val (.int i3), .val (.int i4), .val (.int nz), .val (.long ka), .second, .val (.long kb), .second, .val (.long kc), .second, .val (.long kd), .second, .val (.ref b), .unset, .unset, .unset] []))
  refine own_go (fun tQ kQ => XS.lconst X1.here hx rfl (hb hby at_56) kQ) ?_
  show own_End p e below _ (T1.setTop (mkF m 57 #[.val (.int i0), .val (.int i1), .val (.int i2), .val (.int i3), .val (.int i4), .val (.int nz), .val (.long ka), .second, .val (.long kb), .second, .val (.long kc), .second, .val (.long kd), .second, .val (.ref b), .unset, .unset, .unset] [(.long (0 : Int64))]))
  refine own_go (fun tQ kQ => XS.lstore X1.here hx rfl (hb hby at_57) rfl (l' := #[.val (.int i0), .val (.int i1), .val (.int i2), .val (.int i3), .val (.int i4), .val (.int nz), .val (.long ka), .second, .val (.long kb), .second, .val (.long kc), .second, .val (.long kd), .second, .val (.ref b), .val (.long (0 : Int64)), .second, .unset]) rfl kQ) ?_
  show own_End p e below _ (T1.setTop (mkF m 59 #[.val (.int i0), .val (.int i1), .val (.int i2), .val (.int i3), .val (.int i4), .val (.int nz), .val (.long ka), .second, .val (.long kb), .second, .val (.long kc), .second, .val (.long kd), .second, .val (.ref b), .val (.long (0 : Int64)), .second, .unset] []))
  have hnz := hn
  clear hz
  rcases hnz with rfl | rfl | rfl | rfl | rfl
  ·
    show own_End p e below _ (T1.setTop (mkF m 59 #[.val (.int i0), .val (.int i1), .val (.int i2), .val (.int i3), .val (.int i4), .val (.int (0 : Int32)), .val (.long ka), .second, .val (.long kb), .second, .val (.long kc), .second, .val (.long kd), .second, .val (.ref b), .val (.long (0 : Int64)), .second, .unset] []))
    refine own_go (fun tQ kQ => XS.iload X1.here hx rfl (hb hby at_59) rfl kQ) ?_
    show own_End p e below _ (T1.setTop (mkF m 61 #[.val (.int i0), .val (.int i1), .val (.int i2), .val (.int i3), .val (.int i4), .val (.int (0 : Int32)), .val (.long ka), .second, .val (.long kb), .second, .val (.long kc), .second, .val (.long kd), .second, .val (.ref b), .val (.long (0 : Int64)), .second, .unset] [(.int (0 : Int32))]))
    refine own_go (fun tQ kQ => XS.ifYes X1.here hx rfl (pc0 := 61) (pc' := 71) rfl (hb hby at_61) rfl ((if0 _ _).trans (flt (by decide)).2.2.2) (by decide) (by decide) kQ) ?_
    show own_End p e below _ (T1.setTop (mkF m 71 #[.val (.int i0), .val (.int i1), .val (.int i2), .val (.int i3), .val (.int i4), .val (.int (0 : Int32)), .val (.long ka), .second, .val (.long kb), .second, .val (.long kc), .second, .val (.long kd), .second, .val (.ref b), .val (.long (0 : Int64)), .second, .unset] []))
    refine own_go (fun tQ kQ => XS.iload X1.here hx rfl (hb hby at_71) rfl kQ) ?_
    show own_End p e below _ (T1.setTop (mkF m 73 #[.val (.int i0), .val (.int i1), .val (.int i2), .val (.int i3), .val (.int i4), .val (.int (0 : Int32)), .val (.long ka), .second, .val (.long kb), .second, .val (.long kc), .second, .val (.long kd), .second, .val (.ref b), .val (.long (0 : Int64)), .second, .unset] [(.int (0 : Int32))]))
    refine own_go (fun tQ kQ => XS.iconst X1.here hx rfl (hb hby at_73) kQ) ?_
    show own_End p e below _ (T1.setTop (mkF m 74 #[.val (.int i0), .val (.int i1), .val (.int i2), .val (.int i3), .val (.int i4), .val (.int (0 : Int32)), .val (.long ka), .second, .val (.long kb), .second, .val (.long kc), .second, .val (.long kd), .second, .val (.ref b), .val (.long (0 : Int64)), .second, .unset] [(.int (1 : Int32)), (.int (0 : Int32))]))
    refine own_go (fun tQ kQ => XS.icmpYes X1.here hx rfl (pc0 := 74) (pc' := 84) rfl (hb hby at_74) rfl (flt (by decide)).2.2.2 (by decide) (by decide) kQ) ?_
    show own_End p e below _ (T1.setTop (mkF m 84 #[.val (.int i0), .val (.int i1), .val (.int i2), .val (.int i3), .val (.int i4), .val (.int (0 : Int32)), .val (.long ka), .second, .val (.long kb), .second, .val (.long kc), .second, .val (.long kd), .second, .val (.ref b), .val (.long (0 : Int64)), .second, .unset] []))
    refine own_go (fun tQ kQ => XS.iload X1.here hx rfl (hb hby at_84) rfl kQ) ?_
    show own_End p e below _ (T1.setTop (mkF m 86 #[.val (.int i0), .val (.int i1), .val (.int i2), .val (.int i3), .val (.int i4), .val (.int (0 : Int32)), .val (.long ka), .second, .val (.long kb), .second, .val (.long kc), .second, .val (.long kd), .second, .val (.ref b), .val (.long (0 : Int64)), .second, .unset] [(.int (0 : Int32))]))
    refine own_go (fun tQ kQ => XS.iconst X1.here hx rfl (hb hby at_86) kQ) ?_
    show own_End p e below _ (T1.setTop (mkF m 87 #[.val (.int i0), .val (.int i1), .val (.int i2), .val (.int i3), .val (.int i4), .val (.int (0 : Int32)), .val (.long ka), .second, .val (.long kb), .second, .val (.long kc), .second, .val (.long kd), .second, .val (.ref b), .val (.long (0 : Int64)), .second, .unset] [(.int (2 : Int32)), (.int (0 : Int32))]))
    refine own_go (fun tQ kQ => XS.icmpYes X1.here hx rfl (pc0 := 87) (pc' := 97) rfl (hb hby at_87) rfl (flt (by decide)).2.2.2 (by decide) (by decide) kQ) ?_
    show own_End p e below _ (T1.setTop (mkF m 97 #[.val (.int i0), .val (.int i1), .val (.int i2), .val (.int i3), .val (.int i4), .val (.int (0 : Int32)), .val (.long ka), .second, .val (.long kb), .second, .val (.long kc), .second, .val (.long kd), .second, .val (.ref b), .val (.long (0 : Int64)), .second, .unset] []))
    refine own_go (fun tQ kQ => XS.iload X1.here hx rfl (hb hby at_97) rfl kQ) ?_
    show own_End p e below _ (T1.setTop (mkF m 99 #[.val (.int i0), .val (.int i1), .val (.int i2), .val (.int i3), .val (.int i4), .val (.int (0 : Int32)), .val (.long ka), .second, .val (.long kb), .second, .val (.long kc), .second, .val (.long kd), .second, .val (.ref b), .val (.long (0 : Int64)), .second, .unset] [(.int (0 : Int32))]))
    refine own_go (fun tQ kQ => XS.iconst X1.here hx rfl (hb hby at_99) kQ) ?_
    show own_End p e below _ (T1.setTop (mkF m 100 #[.val (.int i0), .val (.int i1), .val (.int i2), .val (.int i3), .val (.int i4), .val (.int (0 : Int32)), .val (.long ka), .second, .val (.long kb), .second, .val (.long kc), .second, .val (.long kd), .second, .val (.ref b), .val (.long (0 : Int64)), .second, .unset] [(.int (3 : Int32)), (.int (0 : Int32))]))
    refine own_go (fun tQ kQ => XS.icmpYes X1.here hx rfl (pc0 := 100) (pc' := 110) rfl (hb hby at_100) rfl (flt (by decide)).2.2.2 (by decide) (by decide) kQ) ?_
    show own_End p e below _ (T1.setTop (mkF m 110 #[.val (.int i0), .val (.int i1), .val (.int i2), .val (.int i3), .val (.int i4), .val (.int (0 : Int32)), .val (.long ka), .second, .val (.long kb), .second, .val (.long kc), .second, .val (.long kd), .second, .val (.ref b), .val (.long (0 : Int64)), .second, .unset] []))
    have hsm : ((0 : Int64)).toInt = own_tot (own_k ka kb kc kd) 0 := own_sum0 hka hkb hkc hkd
    generalize (0 : Int64) = sm at hsm ⊢
    show own_End p e below _ (T1.setTop (mkF m 110 #[.val (.int i0), .val (.int i1), .val (.int i2), .val (.int i3), .val (.int i4), .val (.int (0 : Int32)), .val (.long ka), .second, .val (.long kb), .second, .val (.long kc), .second, .val (.long kd), .second, .val (.ref b), .val (.long sm), .second, .unset] []))
    obtain ⟨T2, h2, X2, e2, E2, A2, D2, -, st2⟩ := newO X1 hx hZ hown (hw _ (List.mem_of_getElem? (i := 7) rfl)) (hw _ (List.mem_of_getElem? (i := 8) rfl)) (hw _ (List.mem_of_getElem? (i := 9) rfl)) rfl (g := (mkF m 110 #[.val (.int i0), .val (.int i1), .val (.int i2), .val (.int i3), .val (.int i4), .val (.int (0 : Int32)), .val (.long ka), .second, .val (.long kb), .second, .val (.long kc), .second, .val (.long kd), .second, .val (.ref b), .val (.long sm), .second, .unset] [])) rfl (hb hby at_110) (by decide) (by decide)
    obtain ⟨o, g2⟩ : ∃ z, z = T1.heap.size := ⟨_, rfl⟩
    rw [← g2] at A2 D2 st2
    have ne_b_o : b ≠ o := Nat.ne_of_lt (Nat.lt_of_lt_of_le V_b.lt (Nat.le_of_eq g2.symm))
    have g_o : n0 ≤ o := Nat.le_trans Zs (Nat.le_of_eq g2.symm)
    have sz_o : h0.size ≤ o := Nat.le_trans szr (Nat.le_of_eq g2.symm)
    have V_b := V_b.ext E2
    have Kp := Kp.ext E2
    have Zs := Nat.le_trans Zs E2.1
    have szr := Nat.le_trans szr E2.1
    have E_o := A2
    have F_makespanSeconds_o : Fld Z h2 o "com/example/tasks_to_slots/taskstoslots/model/PlanLayout$Totals" "makespanSeconds" "D" (.double (0 : UInt64)) := D2 (Or.inr (hw _ (List.mem_of_getElem? (i := 23) rfl))) (ty := .double) (by decide)
    have F_chargesUsd_o : Fld Z h2 o "com/example/tasks_to_slots/taskstoslots/model/PlanLayout$Totals" "chargesUsd" "[D" .null := D2 (Or.inr (hw _ (List.mem_of_getElem? (i := 25) rfl))) (ty := (.array .double)) (by decide)
    have F_vmByTask_o : Fld Z h2 o "com/example/tasks_to_slots/taskstoslots/model/PlanLayout$Totals" "vmByTask" "[I" .null := D2 (Or.inr (hw _ (List.mem_of_getElem? (i := 27) rfl))) (ty := (.array .int)) (by decide)
    refine own_go (fun tQ kQ => st2 tQ kQ) ?_
    show own_End p e below _ (T2.setTop (mkF m 113 #[.val (.int i0), .val (.int i1), .val (.int i2), .val (.int i3), .val (.int i4), .val (.int (0 : Int32)), .val (.long ka), .second, .val (.long kb), .second, .val (.long kc), .second, .val (.long kd), .second, .val (.ref b), .val (.long sm), .second, .unset] [(.ref o)]))
    refine own_go (fun tQ kQ => XS.dup X2.here hx rfl (hb hby at_113) rfl rfl kQ) ?_
    show own_End p e below _ (T2.setTop (mkF m 114 #[.val (.int i0), .val (.int i1), .val (.int i2), .val (.int i3), .val (.int i4), .val (.int (0 : Int32)), .val (.long ka), .second, .val (.long kb), .second, .val (.long kc), .second, .val (.long kd), .second, .val (.ref b), .val (.long sm), .second, .unset] [(.ref o), (.ref o)]))
    refine own_go (fun tQ kQ => XS.dconst0 X2.here hx rfl (hb hby at_114) rfl kQ) ?_
    show own_End p e below _ (T2.setTop (mkF m 115 #[.val (.int i0), .val (.int i1), .val (.int i2), .val (.int i3), .val (.int i4), .val (.int (0 : Int32)), .val (.long ka), .second, .val (.long kb), .second, .val (.long kc), .second, .val (.long kd), .second, .val (.ref b), .val (.long sm), .second, .unset] [(.double (0 : UInt64)), (.ref o), (.ref o)]))
    refine own_go (fun tQ kQ => XS.aload X2.here hx rfl (hb hby at_115) rfl rfl kQ) ?_
    show own_End p e below _ (T2.setTop (mkF m 117 #[.val (.int i0), .val (.int i1), .val (.int i2), .val (.int i3), .val (.int i4), .val (.int (0 : Int32)), .val (.long ka), .second, .val (.long kb), .second, .val (.long kc), .second, .val (.long kd), .second, .val (.ref b), .val (.long sm), .second, .unset] [(.ref b), (.double (0 : UInt64)), (.ref o), (.ref o)]))
    refine own_go (fun tQ kQ => XS.iconst X2.here hx rfl (hb hby at_117) kQ) ?_
    show own_End p e below _ (T2.setTop (mkF m 118 #[.val (.int i0), .val (.int i1), .val (.int i2), .val (.int i3), .val (.int i4), .val (.int (0 : Int32)), .val (.long ka), .second, .val (.long kb), .second, .val (.long kc), .second, .val (.long kd), .second, .val (.ref b), .val (.long sm), .second, .unset] [(.int (0 : Int32)), (.ref b), (.double (0 : UInt64)), (.ref o), (.ref o)]))
    obtain ⟨T3, h3, k3, X3, e3, E3, A3, st3⟩ := newP X2 hx hZ (hw _ (List.mem_of_getElem? (i := 10) rfl)) e2 (g := (mkF m 118 #[.val (.int i0), .val (.int i1), .val (.int i2), .val (.int i3), .val (.int i4), .val (.int (0 : Int32)), .val (.long ka), .second, .val (.long kb), .second, .val (.long kc), .second, .val (.long kd), .second, .val (.ref b), .val (.long sm), .second, .unset] [(.int (0 : Int32)), (.ref b), (.double (0 : UInt64)), (.ref o), (.ref o)])) rfl (hb hby at_118) rfl (by decide) (cap := 0) (by decide) (by decide) (by decide) (by decide)
    obtain ⟨vb, g3⟩ : ∃ z, z = h2.size := ⟨_, rfl⟩
    rw [← g3] at A3 st3
    have ne_b_vb : b ≠ vb := Nat.ne_of_lt (Nat.lt_of_lt_of_le V_b.lt (Nat.le_of_eq g3.symm))
    have ne_o_vb : o ≠ vb := Nat.ne_of_lt (Nat.lt_of_lt_of_le E_o.lt (Nat.le_of_eq g3.symm))
    have g_vb : n0 ≤ vb := Nat.le_trans Zs (Nat.le_of_eq g3.symm)
    have sz_vb : h0.size ≤ vb := Nat.le_trans szr (Nat.le_of_eq g3.symm)
    have V_b := V_b.ext E3
    have E_o := E_o.ext E3
    have F_makespanSeconds_o := F_makespanSeconds_o.ext E3
    have F_chargesUsd_o := F_chargesUsd_o.ext E3
    have F_vmByTask_o := F_vmByTask_o.ext E3
    have Kp := Kp.ext E3
    have Zs := Nat.le_trans Zs E3.1
    have szr := Nat.le_trans szr E3.1
    have V_vb : own_Ar Z h3 vb .int (0 : Int32) (fun _ => (.int (0 : Int32))) := own_Ar.new A3 (by decide)
    refine own_go (fun tQ kQ => st3 tQ kQ) ?_
    show own_End p e below _ (T3.setTop (mkF m 120 #[.val (.int i0), .val (.int i1), .val (.int i2), .val (.int i3), .val (.int i4), .val (.int (0 : Int32)), .val (.long ka), .second, .val (.long kb), .second, .val (.long kc), .second, .val (.long kd), .second, .val (.ref b), .val (.long sm), .second, .unset] [(.ref vb), (.ref b), (.double (0 : UInt64)), (.ref o), (.ref o)]))
    obtain ⟨_, _, ⟨T4, L4, k4, n4⟩, -, X4, ⟨Lc4, hQ4, l4, y4, z4⟩, st4⟩ := X3.specialBack hx (y := (⟨"com/example/tasks_to_slots/taskstoslots/model/PlanLayout$Totals", "<init>", "(D[D[I)V"⟩ : MethodName)) rfl hown (mvT hZ (hw _ (List.mem_of_getElem? (i := 11) rfl))) (mvT hZ (hw _ (List.mem_of_getElem? (i := 12) rfl))) (mvT hZ (hw _ (List.mem_of_getElem? (i := 13) rfl))) (by decide) (backOf (W := 1) (rm2 l Z a0 hw [] o (0 : UInt64) b vb h3 n0 Zs E_o F_makespanSeconds_o F_chargesUsd_o F_vmByTask_o g_o) hZ (hw _ (List.mem_of_getElem? (i := 13) rfl)) (hw _ (List.mem_of_getElem? (i := 9) rfl)) (by decide) (by decide)) (g := (mkF m 120 #[.val (.int i0), .val (.int i1), .val (.int i2), .val (.int i3), .val (.int i4), .val (.int (0 : Int32)), .val (.long ka), .second, .val (.long kb), .second, .val (.long kc), .second, .val (.long kd), .second, .val (.ref b), .val (.long sm), .second, .unset] [(.ref vb), (.ref b), (.double (0 : UInt64)), (.ref o), (.ref o)])) rfl (by rw [hml]; rfl) (Steps.refl _) (a := o) (argsL := [(.double (0 : UInt64)), (.ref b), (.ref vb)]) (rest := [(.ref o)]) (lenOf pd_5 rfl) rfl (by show 2 * 0 + _ ≤ _; exact Nat.le_of_eq rfl) (hb hby at_120) (fun _ _ => ⟨rfl, e3, (Nat.le_of_ble_eq_true rfl), (Nat.le_of_ble_eq_true rfl)⟩)
    dsimp only [Pt.U, Pt.locs, Pt.cells, Pt.slots] at X4 l4 y4 z4 st4 hQ4
    subst l4 y4 z4
    obtain ⟨rfl, N4q, K4, F_makespanSeconds_o, F_chargesUsd_o, F_vmByTask_o⟩ := hQ4
    have Nf := Fr.app Nf N4q
    have V_b := V_b.keep K4 (ninS ne_b_o nin0)
    have E_o := E_o.keep K4
    have V_vb := V_vb.keep K4 (ninS (Ne.symm ne_o_vb) nin0)
    have Kp := Kp.trans K4 (allS (Or.inr sz_o) all0)
    have Zs := Nat.le_trans Zs K4.1
    have szr := Nat.le_trans szr K4.1
    refine own_go (fun tQ kQ => st4.trans kQ) ?_
    show own_End p e below _ (T4.setTop (mkF m 123 #[.val (.int i0), .val (.int i1), .val (.int i2), .val (.int i3), .val (.int i4), .val (.int (0 : Int32)), .val (.long ka), .second, .val (.long kb), .second, .val (.long kc), .second, .val (.long kd), .second, .val (.ref b), .val (.long sm), .second, .unset] [(.ref o)]))
    refine own_go (fun tQ kQ => XS.astore X4.here hx rfl (hb hby at_123) rfl rfl (l' := #[.val (.int i0), .val (.int i1), .val (.int i2), .val (.int i3), .val (.int i4), .val (.int (0 : Int32)), .val (.long ka), .second, .val (.long kb), .second, .val (.long kc), .second, .val (.long kd), .second, .val (.ref b), .val (.long sm), .second, .val (.ref o)]) rfl kQ) ?_
    show own_End p e below _ (T4.setTop (mkF m 125 #[.val (.int i0), .val (.int i1), .val (.int i2), .val (.int i3), .val (.int i4), .val (.int (0 : Int32)), .val (.long ka), .second, .val (.long kb), .second, .val (.long kc), .second, .val (.long kd), .second, .val (.ref b), .val (.long sm), .second, .val (.ref o)] []))
    refine own_go (fun tQ kQ => XS.aload X4.here hx rfl (hb hby at_125) rfl rfl kQ) ?_
    show own_End p e below _ (T4.setTop (mkF m 127 #[.val (.int i0), .val (.int i1), .val (.int i2), .val (.int i3), .val (.int i4), .val (.int (0 : Int32)), .val (.long ka), .second, .val (.long kb), .second, .val (.long kc), .second, .val (.long kd), .second, .val (.ref b), .val (.long sm), .second, .val (.ref o)] [(.ref o)]))
    obtain ⟨cq5, kq5, q5a, q5b, q5c⟩ := isOf hZ rfl E_o
    obtain ⟨_, _, ⟨T5, L5, k5, n5⟩, -, X5, ⟨Lc5, hQ5, l5, y5, z5⟩, st5⟩ := X4.virtualBack hx (y := (⟨"com/example/tasks_to_slots/taskstoslots/model/PlanLayout$Totals", "costUsd", "()D"⟩ : MethodName)) (z := (⟨"com/example/tasks_to_slots/taskstoslots/model/PlanLayout$Totals", "costUsd", "()D"⟩ : MethodName)) hown (mvT hZ (hw _ (List.mem_of_getElem? (i := 28) rfl))) (mvT hZ (hw _ (List.mem_of_getElem? (i := 29) rfl))) (notFace_of_selects (args := #[]) (mvT hZ (hw _ (List.mem_of_getElem? (i := 31) rfl)))) (mvT hZ (hw _ (List.mem_of_getElem? (i := 31) rfl))) (mvT hZ (hw _ (List.mem_of_getElem? (i := 30) rfl))) (by decide) (backOf (W := 0) (rm3 l Z a0 hw [] o b (0 : Int32) 0 (own_k ka kb kc kd) T4.heap n0 Zs F_chargesUsd_o V_b (by decide) (by decide) (own_k_ok hka hkb hkc hkd)) hZ (hw _ (List.mem_of_getElem? (i := 32) rfl)) (hw _ (List.mem_of_getElem? (i := 9) rfl)) (by decide) (by decide)) q5a q5c (g := (mkF m 127 #[.val (.int i0), .val (.int i1), .val (.int i2), .val (.int i3), .val (.int i4), .val (.int (0 : Int32)), .val (.long ka), .second, .val (.long kb), .second, .val (.long kc), .second, .val (.long kd), .second, .val (.ref b), .val (.long sm), .second, .val (.ref o)] [(.ref o)])) rfl (by rw [hml]; rfl) (Steps.refl _) (argsL := []) (rest := []) (lenOf pd_6 rfl) rfl (by show 2 * 0 + _ ≤ _; exact Nat.le_of_eq rfl) (hb hby at_127) (fun _ _ => ⟨rfl, rfl, (Nat.le_of_ble_eq_true rfl), (Nat.le_of_ble_eq_true rfl)⟩)
    dsimp only [Pt.U, Pt.locs, Pt.cells, Pt.slots] at X5 l5 y5 z5 st5 hQ5
    subst l5 y5 z5
    obtain ⟨rfl, N5q, e5⟩ := hQ5
    have Nf := Fr.app Nf N5q
    refine own_go (fun tQ kQ => st5.trans kQ) ?_
    show own_End p e below _ (T5.setTop (mkF m 130 #[.val (.int i0), .val (.int i1), .val (.int i2), .val (.int i3), .val (.int i4), .val (.int (0 : Int32)), .val (.long ka), .second, .val (.long kb), .second, .val (.long kc), .second, .val (.long kd), .second, .val (.ref b), .val (.long sm), .second, .val (.ref o)] [(.double (own_acc (own_k ka kb kc kd) 0))]))
    have hQ := (own_acc_Q (own_k ka kb kc kd) (own_k_ok hka hkb hkc hkd) 0 (by decide))
    have hQ2 : own_Q (own_tot (own_k ka kb kc kd) 0) (FP.ddiv (FP.l2d sm) (4616189618054758400 : UInt64)) := by rw [← hsm]; exact own_Q_div (by have := hQ.2; omega)
    refine own_go (fun tQ kQ => XS.lload X5.here hx rfl (hb hby at_130) rfl kQ) ?_
    show own_End p e below _ (T5.setTop (mkF m 132 #[.val (.int i0), .val (.int i1), .val (.int i2), .val (.int i3), .val (.int i4), .val (.int (0 : Int32)), .val (.long ka), .second, .val (.long kb), .second, .val (.long kc), .second, .val (.long kd), .second, .val (.ref b), .val (.long sm), .second, .val (.ref o)] [(.long sm), (.double (own_acc (own_k ka kb kc kd) 0))]))
    refine own_go (fun tQ kQ => XS.l2dS X5.here hx rfl (hb hby at_132) rfl rfl kQ) ?_
    show own_End p e below _ (T5.setTop (mkF m 133 #[.val (.int i0), .val (.int i1), .val (.int i2), .val (.int i3), .val (.int i4), .val (.int (0 : Int32)), .val (.long ka), .second, .val (.long kb), .second, .val (.long kc), .second, .val (.long kd), .second, .val (.ref b), .val (.long sm), .second, .val (.ref o)] [(.double (FP.l2d sm)), (.double (own_acc (own_k ka kb kc kd) 0))]))
    refine own_go (fun tQ kQ => X5.ldc2DoubleC hx hown (mvT hZ (hw _ (List.mem_of_getElem? (i := 33) rfl))) (g := (mkF m 133 #[.val (.int i0), .val (.int i1), .val (.int i2), .val (.int i3), .val (.int i4), .val (.int (0 : Int32)), .val (.long ka), .second, .val (.long kb), .second, .val (.long kc), .second, .val (.long kd), .second, .val (.ref b), .val (.long sm), .second, .val (.ref o)] [(.double (FP.l2d sm)), (.double (own_acc (own_k ka kb kc kd) 0))])) rfl (hb hby at_133) _ kQ) ?_
    show own_End p e below _ (T5.setTop (mkF m 136 #[.val (.int i0), .val (.int i1), .val (.int i2), .val (.int i3), .val (.int i4), .val (.int (0 : Int32)), .val (.long ka), .second, .val (.long kb), .second, .val (.long kc), .second, .val (.long kd), .second, .val (.ref b), .val (.long sm), .second, .val (.ref o)] [(.double (4616189618054758400 : UInt64)), (.double (FP.l2d sm)), (.double (own_acc (own_k ka kb kc kd) 0))]))
    refine own_go (fun tQ kQ => XS.ddivS X5.here hx rfl (hb hby at_136) rfl (own_Q_nn hQ2) rfl kQ) ?_
    show own_End p e below _ (T5.setTop (mkF m 137 #[.val (.int i0), .val (.int i1), .val (.int i2), .val (.int i3), .val (.int i4), .val (.int (0 : Int32)), .val (.long ka), .second, .val (.long kb), .second, .val (.long kc), .second, .val (.long kd), .second, .val (.ref b), .val (.long sm), .second, .val (.ref o)] [(.double (FP.ddiv (FP.l2d sm) (4616189618054758400 : UInt64))), (.double (own_acc (own_k ka kb kc kd) 0))]))
    refine own_go (fun tQ kQ => XS.dcmpS X5.here hx rfl (hb hby at_137) rfl rfl kQ) ?_
    show own_End p e below _ (T5.setTop (mkF m 138 #[.val (.int i0), .val (.int i1), .val (.int i2), .val (.int i3), .val (.int i4), .val (.int (0 : Int32)), .val (.long ka), .second, .val (.long kb), .second, .val (.long kc), .second, .val (.long kd), .second, .val (.ref b), .val (.long sm), .second, .val (.ref o)] [(.int (cmpValue (FP.dcmp (own_acc (own_k ka kb kc kd) 0) (FP.ddiv (FP.l2d sm) (4616189618054758400 : UInt64))) .l))]))
    refine own_go (fun tQ kQ => XS.ifNo X5.here hx rfl (hb hby at_138) rfl ((if0 _ _).trans (teq (own_Q_cmp hQ.1 hQ2 .l)).2) kQ) ?_
    show own_End p e below _ (T5.setTop (mkF m 141 #[.val (.int i0), .val (.int i1), .val (.int i2), .val (.int i3), .val (.int i4), .val (.int (0 : Int32)), .val (.long ka), .second, .val (.long kb), .second, .val (.long kc), .second, .val (.long kd), .second, .val (.ref b), .val (.long sm), .second, .val (.ref o)] []))
    refine own_go (fun tQ kQ => XS.iconst X5.here hx rfl (hb hby at_141) kQ) ?_
    show own_End p e below _ (T5.setTop (mkF m 142 #[.val (.int i0), .val (.int i1), .val (.int i2), .val (.int i3), .val (.int i4), .val (.int (0 : Int32)), .val (.long ka), .second, .val (.long kb), .second, .val (.long kc), .second, .val (.long kd), .second, .val (.ref b), .val (.long sm), .second, .val (.ref o)] [(.int (1 : Int32))]))
    refine own_go (fun tQ kQ => XS.goto X5.here hx rfl (pc0 := 142) (pc' := 146) rfl (hb hby at_142) (by decide) (by decide) kQ) ?_
    show own_End p e below _ (T5.setTop (mkF m 146 #[.val (.int i0), .val (.int i1), .val (.int i2), .val (.int i3), .val (.int i4), .val (.int (0 : Int32)), .val (.long ka), .second, .val (.long kb), .second, .val (.long kc), .second, .val (.long kd), .second, .val (.ref b), .val (.long sm), .second, .val (.ref o)] [(.int (1 : Int32))]))
    obtain ⟨fs, hr, hrun, hended, hW, hsame⟩ := X5.leave (v := some (.int (1 : Int32))) (fun h => by rw [Bd.returns] at h; cases h)
    refine ⟨_, _, (retN X5 hx (t := .boolean) Bd.returns (by simp) (hb hby at_146) hr), hrun, hended, _, _, rfl, ?_, ⟨_, rfl⟩, hW, hsame.mono (by decide) (by decide)⟩
    show Q0 Z i0 i1 i2 i3 i4 h0 n0 _ T5.heap _
    rw [e5]
    exact ⟨rfl, Nf⟩
  ·
    show own_End p e below _ (T1.setTop (mkF m 59 #[.val (.int i0), .val (.int i1), .val (.int i2), .val (.int i3), .val (.int i4), .val (.int (1 : Int32)), .val (.long ka), .second, .val (.long kb), .second, .val (.long kc), .second, .val (.long kd), .second, .val (.ref b), .val (.long (0 : Int64)), .second, .unset] []))
    refine own_go (fun tQ kQ => XS.iload X1.here hx rfl (hb hby at_59) rfl kQ) ?_
    show own_End p e below _ (T1.setTop (mkF m 61 #[.val (.int i0), .val (.int i1), .val (.int i2), .val (.int i3), .val (.int i4), .val (.int (1 : Int32)), .val (.long ka), .second, .val (.long kb), .second, .val (.long kc), .second, .val (.long kd), .second, .val (.ref b), .val (.long (0 : Int64)), .second, .unset] [(.int (1 : Int32))]))
    refine own_go (fun tQ kQ => XS.ifNo X1.here hx rfl (hb hby at_61) rfl ((if0 _ _).trans (tlt (by decide)).2.2.2) kQ) ?_
    show own_End p e below _ (T1.setTop (mkF m 64 #[.val (.int i0), .val (.int i1), .val (.int i2), .val (.int i3), .val (.int i4), .val (.int (1 : Int32)), .val (.long ka), .second, .val (.long kb), .second, .val (.long kc), .second, .val (.long kd), .second, .val (.ref b), .val (.long (0 : Int64)), .second, .unset] []))
    refine own_go (fun tQ kQ => XS.lload X1.here hx rfl (hb hby at_64) rfl kQ) ?_
    show own_End p e below _ (T1.setTop (mkF m 66 #[.val (.int i0), .val (.int i1), .val (.int i2), .val (.int i3), .val (.int i4), .val (.int (1 : Int32)), .val (.long ka), .second, .val (.long kb), .second, .val (.long kc), .second, .val (.long kd), .second, .val (.ref b), .val (.long (0 : Int64)), .second, .unset] [(.long (0 : Int64))]))
    refine own_go (fun tQ kQ => XS.lload X1.here hx rfl (hb hby at_66) rfl kQ) ?_
    show own_End p e below _ (T1.setTop (mkF m 68 #[.val (.int i0), .val (.int i1), .val (.int i2), .val (.int i3), .val (.int i4), .val (.int (1 : Int32)), .val (.long ka), .second, .val (.long kb), .second, .val (.long kc), .second, .val (.long kd), .second, .val (.ref b), .val (.long (0 : Int64)), .second, .unset] [(.long ka), (.long (0 : Int64))]))
    refine own_go (fun tQ kQ => XS.ladd X1.here hx rfl (hb hby at_68) rfl kQ) ?_
    show own_End p e below _ (T1.setTop (mkF m 69 #[.val (.int i0), .val (.int i1), .val (.int i2), .val (.int i3), .val (.int i4), .val (.int (1 : Int32)), .val (.long ka), .second, .val (.long kb), .second, .val (.long kc), .second, .val (.long kd), .second, .val (.ref b), .val (.long (0 : Int64)), .second, .unset] [(.long ((0 : Int64) + ka))]))
    refine own_go (fun tQ kQ => XS.lstore X1.here hx rfl (hb hby at_69) rfl (l' := #[.val (.int i0), .val (.int i1), .val (.int i2), .val (.int i3), .val (.int i4), .val (.int (1 : Int32)), .val (.long ka), .second, .val (.long kb), .second, .val (.long kc), .second, .val (.long kd), .second, .val (.ref b), .val (.long ((0 : Int64) + ka)), .second, .unset]) rfl kQ) ?_
    show own_End p e below _ (T1.setTop (mkF m 71 #[.val (.int i0), .val (.int i1), .val (.int i2), .val (.int i3), .val (.int i4), .val (.int (1 : Int32)), .val (.long ka), .second, .val (.long kb), .second, .val (.long kc), .second, .val (.long kd), .second, .val (.ref b), .val (.long ((0 : Int64) + ka)), .second, .unset] []))
    refine own_go (fun tQ kQ => XS.iload X1.here hx rfl (hb hby at_71) rfl kQ) ?_
    show own_End p e below _ (T1.setTop (mkF m 73 #[.val (.int i0), .val (.int i1), .val (.int i2), .val (.int i3), .val (.int i4), .val (.int (1 : Int32)), .val (.long ka), .second, .val (.long kb), .second, .val (.long kc), .second, .val (.long kd), .second, .val (.ref b), .val (.long ((0 : Int64) + ka)), .second, .unset] [(.int (1 : Int32))]))
    refine own_go (fun tQ kQ => XS.iconst X1.here hx rfl (hb hby at_73) kQ) ?_
    show own_End p e below _ (T1.setTop (mkF m 74 #[.val (.int i0), .val (.int i1), .val (.int i2), .val (.int i3), .val (.int i4), .val (.int (1 : Int32)), .val (.long ka), .second, .val (.long kb), .second, .val (.long kc), .second, .val (.long kd), .second, .val (.ref b), .val (.long ((0 : Int64) + ka)), .second, .unset] [(.int (1 : Int32)), (.int (1 : Int32))]))
    refine own_go (fun tQ kQ => XS.icmpYes X1.here hx rfl (pc0 := 74) (pc' := 84) rfl (hb hby at_74) rfl (flt (by decide)).2.2.2 (by decide) (by decide) kQ) ?_
    show own_End p e below _ (T1.setTop (mkF m 84 #[.val (.int i0), .val (.int i1), .val (.int i2), .val (.int i3), .val (.int i4), .val (.int (1 : Int32)), .val (.long ka), .second, .val (.long kb), .second, .val (.long kc), .second, .val (.long kd), .second, .val (.ref b), .val (.long ((0 : Int64) + ka)), .second, .unset] []))
    refine own_go (fun tQ kQ => XS.iload X1.here hx rfl (hb hby at_84) rfl kQ) ?_
    show own_End p e below _ (T1.setTop (mkF m 86 #[.val (.int i0), .val (.int i1), .val (.int i2), .val (.int i3), .val (.int i4), .val (.int (1 : Int32)), .val (.long ka), .second, .val (.long kb), .second, .val (.long kc), .second, .val (.long kd), .second, .val (.ref b), .val (.long ((0 : Int64) + ka)), .second, .unset] [(.int (1 : Int32))]))
    refine own_go (fun tQ kQ => XS.iconst X1.here hx rfl (hb hby at_86) kQ) ?_
    show own_End p e below _ (T1.setTop (mkF m 87 #[.val (.int i0), .val (.int i1), .val (.int i2), .val (.int i3), .val (.int i4), .val (.int (1 : Int32)), .val (.long ka), .second, .val (.long kb), .second, .val (.long kc), .second, .val (.long kd), .second, .val (.ref b), .val (.long ((0 : Int64) + ka)), .second, .unset] [(.int (2 : Int32)), (.int (1 : Int32))]))
    refine own_go (fun tQ kQ => XS.icmpYes X1.here hx rfl (pc0 := 87) (pc' := 97) rfl (hb hby at_87) rfl (flt (by decide)).2.2.2 (by decide) (by decide) kQ) ?_
    show own_End p e below _ (T1.setTop (mkF m 97 #[.val (.int i0), .val (.int i1), .val (.int i2), .val (.int i3), .val (.int i4), .val (.int (1 : Int32)), .val (.long ka), .second, .val (.long kb), .second, .val (.long kc), .second, .val (.long kd), .second, .val (.ref b), .val (.long ((0 : Int64) + ka)), .second, .unset] []))
    refine own_go (fun tQ kQ => XS.iload X1.here hx rfl (hb hby at_97) rfl kQ) ?_
    show own_End p e below _ (T1.setTop (mkF m 99 #[.val (.int i0), .val (.int i1), .val (.int i2), .val (.int i3), .val (.int i4), .val (.int (1 : Int32)), .val (.long ka), .second, .val (.long kb), .second, .val (.long kc), .second, .val (.long kd), .second, .val (.ref b), .val (.long ((0 : Int64) + ka)), .second, .unset] [(.int (1 : Int32))]))
    refine own_go (fun tQ kQ => XS.iconst X1.here hx rfl (hb hby at_99) kQ) ?_
    show own_End p e below _ (T1.setTop (mkF m 100 #[.val (.int i0), .val (.int i1), .val (.int i2), .val (.int i3), .val (.int i4), .val (.int (1 : Int32)), .val (.long ka), .second, .val (.long kb), .second, .val (.long kc), .second, .val (.long kd), .second, .val (.ref b), .val (.long ((0 : Int64) + ka)), .second, .unset] [(.int (3 : Int32)), (.int (1 : Int32))]))
    refine own_go (fun tQ kQ => XS.icmpYes X1.here hx rfl (pc0 := 100) (pc' := 110) rfl (hb hby at_100) rfl (flt (by decide)).2.2.2 (by decide) (by decide) kQ) ?_
    show own_End p e below _ (T1.setTop (mkF m 110 #[.val (.int i0), .val (.int i1), .val (.int i2), .val (.int i3), .val (.int i4), .val (.int (1 : Int32)), .val (.long ka), .second, .val (.long kb), .second, .val (.long kc), .second, .val (.long kd), .second, .val (.ref b), .val (.long ((0 : Int64) + ka)), .second, .unset] []))
    have hsm : (((0 : Int64) + ka)).toInt = own_tot (own_k ka kb kc kd) 1 := own_sum1 hka hkb hkc hkd
    generalize ((0 : Int64) + ka) = sm at hsm ⊢
    show own_End p e below _ (T1.setTop (mkF m 110 #[.val (.int i0), .val (.int i1), .val (.int i2), .val (.int i3), .val (.int i4), .val (.int (1 : Int32)), .val (.long ka), .second, .val (.long kb), .second, .val (.long kc), .second, .val (.long kd), .second, .val (.ref b), .val (.long sm), .second, .unset] []))
    obtain ⟨T6, h6, X6, e6, E6, A6, D6, -, st6⟩ := newO X1 hx hZ hown (hw _ (List.mem_of_getElem? (i := 7) rfl)) (hw _ (List.mem_of_getElem? (i := 8) rfl)) (hw _ (List.mem_of_getElem? (i := 9) rfl)) rfl (g := (mkF m 110 #[.val (.int i0), .val (.int i1), .val (.int i2), .val (.int i3), .val (.int i4), .val (.int (1 : Int32)), .val (.long ka), .second, .val (.long kb), .second, .val (.long kc), .second, .val (.long kd), .second, .val (.ref b), .val (.long sm), .second, .unset] [])) rfl (hb hby at_110) (by decide) (by decide)
    obtain ⟨o, g6⟩ : ∃ z, z = T1.heap.size := ⟨_, rfl⟩
    rw [← g6] at A6 D6 st6
    have ne_b_o : b ≠ o := Nat.ne_of_lt (Nat.lt_of_lt_of_le V_b.lt (Nat.le_of_eq g6.symm))
    have g_o : n0 ≤ o := Nat.le_trans Zs (Nat.le_of_eq g6.symm)
    have sz_o : h0.size ≤ o := Nat.le_trans szr (Nat.le_of_eq g6.symm)
    have V_b := V_b.ext E6
    have Kp := Kp.ext E6
    have Zs := Nat.le_trans Zs E6.1
    have szr := Nat.le_trans szr E6.1
    have E_o := A6
    have F_makespanSeconds_o : Fld Z h6 o "com/example/tasks_to_slots/taskstoslots/model/PlanLayout$Totals" "makespanSeconds" "D" (.double (0 : UInt64)) := D6 (Or.inr (hw _ (List.mem_of_getElem? (i := 23) rfl))) (ty := .double) (by decide)
    have F_chargesUsd_o : Fld Z h6 o "com/example/tasks_to_slots/taskstoslots/model/PlanLayout$Totals" "chargesUsd" "[D" .null := D6 (Or.inr (hw _ (List.mem_of_getElem? (i := 25) rfl))) (ty := (.array .double)) (by decide)
    have F_vmByTask_o : Fld Z h6 o "com/example/tasks_to_slots/taskstoslots/model/PlanLayout$Totals" "vmByTask" "[I" .null := D6 (Or.inr (hw _ (List.mem_of_getElem? (i := 27) rfl))) (ty := (.array .int)) (by decide)
    refine own_go (fun tQ kQ => st6 tQ kQ) ?_
    show own_End p e below _ (T6.setTop (mkF m 113 #[.val (.int i0), .val (.int i1), .val (.int i2), .val (.int i3), .val (.int i4), .val (.int (1 : Int32)), .val (.long ka), .second, .val (.long kb), .second, .val (.long kc), .second, .val (.long kd), .second, .val (.ref b), .val (.long sm), .second, .unset] [(.ref o)]))
    refine own_go (fun tQ kQ => XS.dup X6.here hx rfl (hb hby at_113) rfl rfl kQ) ?_
    show own_End p e below _ (T6.setTop (mkF m 114 #[.val (.int i0), .val (.int i1), .val (.int i2), .val (.int i3), .val (.int i4), .val (.int (1 : Int32)), .val (.long ka), .second, .val (.long kb), .second, .val (.long kc), .second, .val (.long kd), .second, .val (.ref b), .val (.long sm), .second, .unset] [(.ref o), (.ref o)]))
    refine own_go (fun tQ kQ => XS.dconst0 X6.here hx rfl (hb hby at_114) rfl kQ) ?_
    show own_End p e below _ (T6.setTop (mkF m 115 #[.val (.int i0), .val (.int i1), .val (.int i2), .val (.int i3), .val (.int i4), .val (.int (1 : Int32)), .val (.long ka), .second, .val (.long kb), .second, .val (.long kc), .second, .val (.long kd), .second, .val (.ref b), .val (.long sm), .second, .unset] [(.double (0 : UInt64)), (.ref o), (.ref o)]))
    refine own_go (fun tQ kQ => XS.aload X6.here hx rfl (hb hby at_115) rfl rfl kQ) ?_
    show own_End p e below _ (T6.setTop (mkF m 117 #[.val (.int i0), .val (.int i1), .val (.int i2), .val (.int i3), .val (.int i4), .val (.int (1 : Int32)), .val (.long ka), .second, .val (.long kb), .second, .val (.long kc), .second, .val (.long kd), .second, .val (.ref b), .val (.long sm), .second, .unset] [(.ref b), (.double (0 : UInt64)), (.ref o), (.ref o)]))
    refine own_go (fun tQ kQ => XS.iconst X6.here hx rfl (hb hby at_117) kQ) ?_
    show own_End p e below _ (T6.setTop (mkF m 118 #[.val (.int i0), .val (.int i1), .val (.int i2), .val (.int i3), .val (.int i4), .val (.int (1 : Int32)), .val (.long ka), .second, .val (.long kb), .second, .val (.long kc), .second, .val (.long kd), .second, .val (.ref b), .val (.long sm), .second, .unset] [(.int (0 : Int32)), (.ref b), (.double (0 : UInt64)), (.ref o), (.ref o)]))
    obtain ⟨T7, h7, k7, X7, e7, E7, A7, st7⟩ := newP X6 hx hZ (hw _ (List.mem_of_getElem? (i := 10) rfl)) e6 (g := (mkF m 118 #[.val (.int i0), .val (.int i1), .val (.int i2), .val (.int i3), .val (.int i4), .val (.int (1 : Int32)), .val (.long ka), .second, .val (.long kb), .second, .val (.long kc), .second, .val (.long kd), .second, .val (.ref b), .val (.long sm), .second, .unset] [(.int (0 : Int32)), (.ref b), (.double (0 : UInt64)), (.ref o), (.ref o)])) rfl (hb hby at_118) rfl (by decide) (cap := 0) (by decide) (by decide) (by decide) (by decide)
    obtain ⟨vb, g7⟩ : ∃ z, z = h6.size := ⟨_, rfl⟩
    rw [← g7] at A7 st7
    have ne_b_vb : b ≠ vb := Nat.ne_of_lt (Nat.lt_of_lt_of_le V_b.lt (Nat.le_of_eq g7.symm))
    have ne_o_vb : o ≠ vb := Nat.ne_of_lt (Nat.lt_of_lt_of_le E_o.lt (Nat.le_of_eq g7.symm))
    have g_vb : n0 ≤ vb := Nat.le_trans Zs (Nat.le_of_eq g7.symm)
    have sz_vb : h0.size ≤ vb := Nat.le_trans szr (Nat.le_of_eq g7.symm)
    have V_b := V_b.ext E7
    have E_o := E_o.ext E7
    have F_makespanSeconds_o := F_makespanSeconds_o.ext E7
    have F_chargesUsd_o := F_chargesUsd_o.ext E7
    have F_vmByTask_o := F_vmByTask_o.ext E7
    have Kp := Kp.ext E7
    have Zs := Nat.le_trans Zs E7.1
    have szr := Nat.le_trans szr E7.1
    have V_vb : own_Ar Z h7 vb .int (0 : Int32) (fun _ => (.int (0 : Int32))) := own_Ar.new A7 (by decide)
    refine own_go (fun tQ kQ => st7 tQ kQ) ?_
    show own_End p e below _ (T7.setTop (mkF m 120 #[.val (.int i0), .val (.int i1), .val (.int i2), .val (.int i3), .val (.int i4), .val (.int (1 : Int32)), .val (.long ka), .second, .val (.long kb), .second, .val (.long kc), .second, .val (.long kd), .second, .val (.ref b), .val (.long sm), .second, .unset] [(.ref vb), (.ref b), (.double (0 : UInt64)), (.ref o), (.ref o)]))
    obtain ⟨_, _, ⟨T8, L8, k8, n8⟩, -, X8, ⟨Lc8, hQ8, l8, y8, z8⟩, st8⟩ := X7.specialBack hx (y := (⟨"com/example/tasks_to_slots/taskstoslots/model/PlanLayout$Totals", "<init>", "(D[D[I)V"⟩ : MethodName)) rfl hown (mvT hZ (hw _ (List.mem_of_getElem? (i := 11) rfl))) (mvT hZ (hw _ (List.mem_of_getElem? (i := 12) rfl))) (mvT hZ (hw _ (List.mem_of_getElem? (i := 13) rfl))) (by decide) (backOf (W := 1) (rm2 l Z a0 hw [] o (0 : UInt64) b vb h7 n0 Zs E_o F_makespanSeconds_o F_chargesUsd_o F_vmByTask_o g_o) hZ (hw _ (List.mem_of_getElem? (i := 13) rfl)) (hw _ (List.mem_of_getElem? (i := 9) rfl)) (by decide) (by decide)) (g := (mkF m 120 #[.val (.int i0), .val (.int i1), .val (.int i2), .val (.int i3), .val (.int i4), .val (.int (1 : Int32)), .val (.long ka), .second, .val (.long kb), .second, .val (.long kc), .second, .val (.long kd), .second, .val (.ref b), .val (.long sm), .second, .unset] [(.ref vb), (.ref b), (.double (0 : UInt64)), (.ref o), (.ref o)])) rfl (by rw [hml]; rfl) (Steps.refl _) (a := o) (argsL := [(.double (0 : UInt64)), (.ref b), (.ref vb)]) (rest := [(.ref o)]) (lenOf pd_5 rfl) rfl (by show 2 * 0 + _ ≤ _; exact Nat.le_of_eq rfl) (hb hby at_120) (fun _ _ => ⟨rfl, e7, (Nat.le_of_ble_eq_true rfl), (Nat.le_of_ble_eq_true rfl)⟩)
    dsimp only [Pt.U, Pt.locs, Pt.cells, Pt.slots] at X8 l8 y8 z8 st8 hQ8
    subst l8 y8 z8
    obtain ⟨rfl, N8q, K8, F_makespanSeconds_o, F_chargesUsd_o, F_vmByTask_o⟩ := hQ8
    have Nf := Fr.app Nf N8q
    have V_b := V_b.keep K8 (ninS ne_b_o nin0)
    have E_o := E_o.keep K8
    have V_vb := V_vb.keep K8 (ninS (Ne.symm ne_o_vb) nin0)
    have Kp := Kp.trans K8 (allS (Or.inr sz_o) all0)
    have Zs := Nat.le_trans Zs K8.1
    have szr := Nat.le_trans szr K8.1
    refine own_go (fun tQ kQ => st8.trans kQ) ?_
    show own_End p e below _ (T8.setTop (mkF m 123 #[.val (.int i0), .val (.int i1), .val (.int i2), .val (.int i3), .val (.int i4), .val (.int (1 : Int32)), .val (.long ka), .second, .val (.long kb), .second, .val (.long kc), .second, .val (.long kd), .second, .val (.ref b), .val (.long sm), .second, .unset] [(.ref o)]))
    refine own_go (fun tQ kQ => XS.astore X8.here hx rfl (hb hby at_123) rfl rfl (l' := #[.val (.int i0), .val (.int i1), .val (.int i2), .val (.int i3), .val (.int i4), .val (.int (1 : Int32)), .val (.long ka), .second, .val (.long kb), .second, .val (.long kc), .second, .val (.long kd), .second, .val (.ref b), .val (.long sm), .second, .val (.ref o)]) rfl kQ) ?_
    show own_End p e below _ (T8.setTop (mkF m 125 #[.val (.int i0), .val (.int i1), .val (.int i2), .val (.int i3), .val (.int i4), .val (.int (1 : Int32)), .val (.long ka), .second, .val (.long kb), .second, .val (.long kc), .second, .val (.long kd), .second, .val (.ref b), .val (.long sm), .second, .val (.ref o)] []))
    refine own_go (fun tQ kQ => XS.aload X8.here hx rfl (hb hby at_125) rfl rfl kQ) ?_
    show own_End p e below _ (T8.setTop (mkF m 127 #[.val (.int i0), .val (.int i1), .val (.int i2), .val (.int i3), .val (.int i4), .val (.int (1 : Int32)), .val (.long ka), .second, .val (.long kb), .second, .val (.long kc), .second, .val (.long kd), .second, .val (.ref b), .val (.long sm), .second, .val (.ref o)] [(.ref o)]))
    obtain ⟨cq9, kq9, q9a, q9b, q9c⟩ := isOf hZ rfl E_o
    obtain ⟨_, _, ⟨T9, L9, k9, n9⟩, -, X9, ⟨Lc9, hQ9, l9, y9, z9⟩, st9⟩ := X8.virtualBack hx (y := (⟨"com/example/tasks_to_slots/taskstoslots/model/PlanLayout$Totals", "costUsd", "()D"⟩ : MethodName)) (z := (⟨"com/example/tasks_to_slots/taskstoslots/model/PlanLayout$Totals", "costUsd", "()D"⟩ : MethodName)) hown (mvT hZ (hw _ (List.mem_of_getElem? (i := 28) rfl))) (mvT hZ (hw _ (List.mem_of_getElem? (i := 29) rfl))) (notFace_of_selects (args := #[]) (mvT hZ (hw _ (List.mem_of_getElem? (i := 31) rfl)))) (mvT hZ (hw _ (List.mem_of_getElem? (i := 31) rfl))) (mvT hZ (hw _ (List.mem_of_getElem? (i := 30) rfl))) (by decide) (backOf (W := 0) (rm3 l Z a0 hw [] o b (1 : Int32) 1 (own_k ka kb kc kd) T8.heap n0 Zs F_chargesUsd_o V_b (by decide) (by decide) (own_k_ok hka hkb hkc hkd)) hZ (hw _ (List.mem_of_getElem? (i := 32) rfl)) (hw _ (List.mem_of_getElem? (i := 9) rfl)) (by decide) (by decide)) q9a q9c (g := (mkF m 127 #[.val (.int i0), .val (.int i1), .val (.int i2), .val (.int i3), .val (.int i4), .val (.int (1 : Int32)), .val (.long ka), .second, .val (.long kb), .second, .val (.long kc), .second, .val (.long kd), .second, .val (.ref b), .val (.long sm), .second, .val (.ref o)] [(.ref o)])) rfl (by rw [hml]; rfl) (Steps.refl _) (argsL := []) (rest := []) (lenOf pd_6 rfl) rfl (by show 2 * 0 + _ ≤ _; exact Nat.le_of_eq rfl) (hb hby at_127) (fun _ _ => ⟨rfl, rfl, (Nat.le_of_ble_eq_true rfl), (Nat.le_of_ble_eq_true rfl)⟩)
    dsimp only [Pt.U, Pt.locs, Pt.cells, Pt.slots] at X9 l9 y9 z9 st9 hQ9
    subst l9 y9 z9
    obtain ⟨rfl, N9q, e9⟩ := hQ9
    have Nf := Fr.app Nf N9q
    refine own_go (fun tQ kQ => st9.trans kQ) ?_
    show own_End p e below _ (T9.setTop (mkF m 130 #[.val (.int i0), .val (.int i1), .val (.int i2), .val (.int i3), .val (.int i4), .val (.int (1 : Int32)), .val (.long ka), .second, .val (.long kb), .second, .val (.long kc), .second, .val (.long kd), .second, .val (.ref b), .val (.long sm), .second, .val (.ref o)] [(.double (own_acc (own_k ka kb kc kd) 1))]))
    have hQ := (own_acc_Q (own_k ka kb kc kd) (own_k_ok hka hkb hkc hkd) 1 (by decide))
    have hQ2 : own_Q (own_tot (own_k ka kb kc kd) 1) (FP.ddiv (FP.l2d sm) (4616189618054758400 : UInt64)) := by rw [← hsm]; exact own_Q_div (by have := hQ.2; omega)
    refine own_go (fun tQ kQ => XS.lload X9.here hx rfl (hb hby at_130) rfl kQ) ?_
    show own_End p e below _ (T9.setTop (mkF m 132 #[.val (.int i0), .val (.int i1), .val (.int i2), .val (.int i3), .val (.int i4), .val (.int (1 : Int32)), .val (.long ka), .second, .val (.long kb), .second, .val (.long kc), .second, .val (.long kd), .second, .val (.ref b), .val (.long sm), .second, .val (.ref o)] [(.long sm), (.double (own_acc (own_k ka kb kc kd) 1))]))
    refine own_go (fun tQ kQ => XS.l2dS X9.here hx rfl (hb hby at_132) rfl rfl kQ) ?_
    show own_End p e below _ (T9.setTop (mkF m 133 #[.val (.int i0), .val (.int i1), .val (.int i2), .val (.int i3), .val (.int i4), .val (.int (1 : Int32)), .val (.long ka), .second, .val (.long kb), .second, .val (.long kc), .second, .val (.long kd), .second, .val (.ref b), .val (.long sm), .second, .val (.ref o)] [(.double (FP.l2d sm)), (.double (own_acc (own_k ka kb kc kd) 1))]))
    refine own_go (fun tQ kQ => X9.ldc2DoubleC hx hown (mvT hZ (hw _ (List.mem_of_getElem? (i := 33) rfl))) (g := (mkF m 133 #[.val (.int i0), .val (.int i1), .val (.int i2), .val (.int i3), .val (.int i4), .val (.int (1 : Int32)), .val (.long ka), .second, .val (.long kb), .second, .val (.long kc), .second, .val (.long kd), .second, .val (.ref b), .val (.long sm), .second, .val (.ref o)] [(.double (FP.l2d sm)), (.double (own_acc (own_k ka kb kc kd) 1))])) rfl (hb hby at_133) _ kQ) ?_
    show own_End p e below _ (T9.setTop (mkF m 136 #[.val (.int i0), .val (.int i1), .val (.int i2), .val (.int i3), .val (.int i4), .val (.int (1 : Int32)), .val (.long ka), .second, .val (.long kb), .second, .val (.long kc), .second, .val (.long kd), .second, .val (.ref b), .val (.long sm), .second, .val (.ref o)] [(.double (4616189618054758400 : UInt64)), (.double (FP.l2d sm)), (.double (own_acc (own_k ka kb kc kd) 1))]))
    refine own_go (fun tQ kQ => XS.ddivS X9.here hx rfl (hb hby at_136) rfl (own_Q_nn hQ2) rfl kQ) ?_
    show own_End p e below _ (T9.setTop (mkF m 137 #[.val (.int i0), .val (.int i1), .val (.int i2), .val (.int i3), .val (.int i4), .val (.int (1 : Int32)), .val (.long ka), .second, .val (.long kb), .second, .val (.long kc), .second, .val (.long kd), .second, .val (.ref b), .val (.long sm), .second, .val (.ref o)] [(.double (FP.ddiv (FP.l2d sm) (4616189618054758400 : UInt64))), (.double (own_acc (own_k ka kb kc kd) 1))]))
    refine own_go (fun tQ kQ => XS.dcmpS X9.here hx rfl (hb hby at_137) rfl rfl kQ) ?_
    show own_End p e below _ (T9.setTop (mkF m 138 #[.val (.int i0), .val (.int i1), .val (.int i2), .val (.int i3), .val (.int i4), .val (.int (1 : Int32)), .val (.long ka), .second, .val (.long kb), .second, .val (.long kc), .second, .val (.long kd), .second, .val (.ref b), .val (.long sm), .second, .val (.ref o)] [(.int (cmpValue (FP.dcmp (own_acc (own_k ka kb kc kd) 1) (FP.ddiv (FP.l2d sm) (4616189618054758400 : UInt64))) .l))]))
    refine own_go (fun tQ kQ => XS.ifNo X9.here hx rfl (hb hby at_138) rfl ((if0 _ _).trans (teq (own_Q_cmp hQ.1 hQ2 .l)).2) kQ) ?_
    show own_End p e below _ (T9.setTop (mkF m 141 #[.val (.int i0), .val (.int i1), .val (.int i2), .val (.int i3), .val (.int i4), .val (.int (1 : Int32)), .val (.long ka), .second, .val (.long kb), .second, .val (.long kc), .second, .val (.long kd), .second, .val (.ref b), .val (.long sm), .second, .val (.ref o)] []))
    refine own_go (fun tQ kQ => XS.iconst X9.here hx rfl (hb hby at_141) kQ) ?_
    show own_End p e below _ (T9.setTop (mkF m 142 #[.val (.int i0), .val (.int i1), .val (.int i2), .val (.int i3), .val (.int i4), .val (.int (1 : Int32)), .val (.long ka), .second, .val (.long kb), .second, .val (.long kc), .second, .val (.long kd), .second, .val (.ref b), .val (.long sm), .second, .val (.ref o)] [(.int (1 : Int32))]))
    refine own_go (fun tQ kQ => XS.goto X9.here hx rfl (pc0 := 142) (pc' := 146) rfl (hb hby at_142) (by decide) (by decide) kQ) ?_
    show own_End p e below _ (T9.setTop (mkF m 146 #[.val (.int i0), .val (.int i1), .val (.int i2), .val (.int i3), .val (.int i4), .val (.int (1 : Int32)), .val (.long ka), .second, .val (.long kb), .second, .val (.long kc), .second, .val (.long kd), .second, .val (.ref b), .val (.long sm), .second, .val (.ref o)] [(.int (1 : Int32))]))
    obtain ⟨fs, hr, hrun, hended, hW, hsame⟩ := X9.leave (v := some (.int (1 : Int32))) (fun h => by rw [Bd.returns] at h; cases h)
    refine ⟨_, _, (retN X9 hx (t := .boolean) Bd.returns (by simp) (hb hby at_146) hr), hrun, hended, _, _, rfl, ?_, ⟨_, rfl⟩, hW, hsame.mono (by decide) (by decide)⟩
    show Q0 Z i0 i1 i2 i3 i4 h0 n0 _ T9.heap _
    rw [e9]
    exact ⟨rfl, Nf⟩
  ·
    show own_End p e below _ (T1.setTop (mkF m 59 #[.val (.int i0), .val (.int i1), .val (.int i2), .val (.int i3), .val (.int i4), .val (.int (2 : Int32)), .val (.long ka), .second, .val (.long kb), .second, .val (.long kc), .second, .val (.long kd), .second, .val (.ref b), .val (.long (0 : Int64)), .second, .unset] []))
    refine own_go (fun tQ kQ => XS.iload X1.here hx rfl (hb hby at_59) rfl kQ) ?_
    show own_End p e below _ (T1.setTop (mkF m 61 #[.val (.int i0), .val (.int i1), .val (.int i2), .val (.int i3), .val (.int i4), .val (.int (2 : Int32)), .val (.long ka), .second, .val (.long kb), .second, .val (.long kc), .second, .val (.long kd), .second, .val (.ref b), .val (.long (0 : Int64)), .second, .unset] [(.int (2 : Int32))]))
    refine own_go (fun tQ kQ => XS.ifNo X1.here hx rfl (hb hby at_61) rfl ((if0 _ _).trans (tlt (by decide)).2.2.2) kQ) ?_
    show own_End p e below _ (T1.setTop (mkF m 64 #[.val (.int i0), .val (.int i1), .val (.int i2), .val (.int i3), .val (.int i4), .val (.int (2 : Int32)), .val (.long ka), .second, .val (.long kb), .second, .val (.long kc), .second, .val (.long kd), .second, .val (.ref b), .val (.long (0 : Int64)), .second, .unset] []))
    refine own_go (fun tQ kQ => XS.lload X1.here hx rfl (hb hby at_64) rfl kQ) ?_
    show own_End p e below _ (T1.setTop (mkF m 66 #[.val (.int i0), .val (.int i1), .val (.int i2), .val (.int i3), .val (.int i4), .val (.int (2 : Int32)), .val (.long ka), .second, .val (.long kb), .second, .val (.long kc), .second, .val (.long kd), .second, .val (.ref b), .val (.long (0 : Int64)), .second, .unset] [(.long (0 : Int64))]))
    refine own_go (fun tQ kQ => XS.lload X1.here hx rfl (hb hby at_66) rfl kQ) ?_
    show own_End p e below _ (T1.setTop (mkF m 68 #[.val (.int i0), .val (.int i1), .val (.int i2), .val (.int i3), .val (.int i4), .val (.int (2 : Int32)), .val (.long ka), .second, .val (.long kb), .second, .val (.long kc), .second, .val (.long kd), .second, .val (.ref b), .val (.long (0 : Int64)), .second, .unset] [(.long ka), (.long (0 : Int64))]))
    refine own_go (fun tQ kQ => XS.ladd X1.here hx rfl (hb hby at_68) rfl kQ) ?_
    show own_End p e below _ (T1.setTop (mkF m 69 #[.val (.int i0), .val (.int i1), .val (.int i2), .val (.int i3), .val (.int i4), .val (.int (2 : Int32)), .val (.long ka), .second, .val (.long kb), .second, .val (.long kc), .second, .val (.long kd), .second, .val (.ref b), .val (.long (0 : Int64)), .second, .unset] [(.long ((0 : Int64) + ka))]))
    refine own_go (fun tQ kQ => XS.lstore X1.here hx rfl (hb hby at_69) rfl (l' := #[.val (.int i0), .val (.int i1), .val (.int i2), .val (.int i3), .val (.int i4), .val (.int (2 : Int32)), .val (.long ka), .second, .val (.long kb), .second, .val (.long kc), .second, .val (.long kd), .second, .val (.ref b), .val (.long ((0 : Int64) + ka)), .second, .unset]) rfl kQ) ?_
    show own_End p e below _ (T1.setTop (mkF m 71 #[.val (.int i0), .val (.int i1), .val (.int i2), .val (.int i3), .val (.int i4), .val (.int (2 : Int32)), .val (.long ka), .second, .val (.long kb), .second, .val (.long kc), .second, .val (.long kd), .second, .val (.ref b), .val (.long ((0 : Int64) + ka)), .second, .unset] []))
    refine own_go (fun tQ kQ => XS.iload X1.here hx rfl (hb hby at_71) rfl kQ) ?_
    show own_End p e below _ (T1.setTop (mkF m 73 #[.val (.int i0), .val (.int i1), .val (.int i2), .val (.int i3), .val (.int i4), .val (.int (2 : Int32)), .val (.long ka), .second, .val (.long kb), .second, .val (.long kc), .second, .val (.long kd), .second, .val (.ref b), .val (.long ((0 : Int64) + ka)), .second, .unset] [(.int (2 : Int32))]))
    refine own_go (fun tQ kQ => XS.iconst X1.here hx rfl (hb hby at_73) kQ) ?_
    show own_End p e below _ (T1.setTop (mkF m 74 #[.val (.int i0), .val (.int i1), .val (.int i2), .val (.int i3), .val (.int i4), .val (.int (2 : Int32)), .val (.long ka), .second, .val (.long kb), .second, .val (.long kc), .second, .val (.long kd), .second, .val (.ref b), .val (.long ((0 : Int64) + ka)), .second, .unset] [(.int (1 : Int32)), (.int (2 : Int32))]))
    refine own_go (fun tQ kQ => XS.icmpNo X1.here hx rfl (hb hby at_74) rfl (tlt (by decide)).2.2.2 kQ) ?_
    show own_End p e below _ (T1.setTop (mkF m 77 #[.val (.int i0), .val (.int i1), .val (.int i2), .val (.int i3), .val (.int i4), .val (.int (2 : Int32)), .val (.long ka), .second, .val (.long kb), .second, .val (.long kc), .second, .val (.long kd), .second, .val (.ref b), .val (.long ((0 : Int64) + ka)), .second, .unset] []))
    refine own_go (fun tQ kQ => XS.lload X1.here hx rfl (hb hby at_77) rfl kQ) ?_
    show own_End p e below _ (T1.setTop (mkF m 79 #[.val (.int i0), .val (.int i1), .val (.int i2), .val (.int i3), .val (.int i4), .val (.int (2 : Int32)), .val (.long ka), .second, .val (.long kb), .second, .val (.long kc), .second, .val (.long kd), .second, .val (.ref b), .val (.long ((0 : Int64) + ka)), .second, .unset] [(.long ((0 : Int64) + ka))]))
    refine own_go (fun tQ kQ => XS.lload X1.here hx rfl (hb hby at_79) rfl kQ) ?_
    show own_End p e below _ (T1.setTop (mkF m 81 #[.val (.int i0), .val (.int i1), .val (.int i2), .val (.int i3), .val (.int i4), .val (.int (2 : Int32)), .val (.long ka), .second, .val (.long kb), .second, .val (.long kc), .second, .val (.long kd), .second, .val (.ref b), .val (.long ((0 : Int64) + ka)), .second, .unset] [(.long kb), (.long ((0 : Int64) + ka))]))
    refine own_go (fun tQ kQ => XS.ladd X1.here hx rfl (hb hby at_81) rfl kQ) ?_
    show own_End p e below _ (T1.setTop (mkF m 82 #[.val (.int i0), .val (.int i1), .val (.int i2), .val (.int i3), .val (.int i4), .val (.int (2 : Int32)), .val (.long ka), .second, .val (.long kb), .second, .val (.long kc), .second, .val (.long kd), .second, .val (.ref b), .val (.long ((0 : Int64) + ka)), .second, .unset] [(.long (((0 : Int64) + ka) + kb))]))
    refine own_go (fun tQ kQ => XS.lstore X1.here hx rfl (hb hby at_82) rfl (l' := #[.val (.int i0), .val (.int i1), .val (.int i2), .val (.int i3), .val (.int i4), .val (.int (2 : Int32)), .val (.long ka), .second, .val (.long kb), .second, .val (.long kc), .second, .val (.long kd), .second, .val (.ref b), .val (.long (((0 : Int64) + ka) + kb)), .second, .unset]) rfl kQ) ?_
    show own_End p e below _ (T1.setTop (mkF m 84 #[.val (.int i0), .val (.int i1), .val (.int i2), .val (.int i3), .val (.int i4), .val (.int (2 : Int32)), .val (.long ka), .second, .val (.long kb), .second, .val (.long kc), .second, .val (.long kd), .second, .val (.ref b), .val (.long (((0 : Int64) + ka) + kb)), .second, .unset] []))
    refine own_go (fun tQ kQ => XS.iload X1.here hx rfl (hb hby at_84) rfl kQ) ?_
    show own_End p e below _ (T1.setTop (mkF m 86 #[.val (.int i0), .val (.int i1), .val (.int i2), .val (.int i3), .val (.int i4), .val (.int (2 : Int32)), .val (.long ka), .second, .val (.long kb), .second, .val (.long kc), .second, .val (.long kd), .second, .val (.ref b), .val (.long (((0 : Int64) + ka) + kb)), .second, .unset] [(.int (2 : Int32))]))
    refine own_go (fun tQ kQ => XS.iconst X1.here hx rfl (hb hby at_86) kQ) ?_
    show own_End p e below _ (T1.setTop (mkF m 87 #[.val (.int i0), .val (.int i1), .val (.int i2), .val (.int i3), .val (.int i4), .val (.int (2 : Int32)), .val (.long ka), .second, .val (.long kb), .second, .val (.long kc), .second, .val (.long kd), .second, .val (.ref b), .val (.long (((0 : Int64) + ka) + kb)), .second, .unset] [(.int (2 : Int32)), (.int (2 : Int32))]))
    refine own_go (fun tQ kQ => XS.icmpYes X1.here hx rfl (pc0 := 87) (pc' := 97) rfl (hb hby at_87) rfl (flt (by decide)).2.2.2 (by decide) (by decide) kQ) ?_
    show own_End p e below _ (T1.setTop (mkF m 97 #[.val (.int i0), .val (.int i1), .val (.int i2), .val (.int i3), .val (.int i4), .val (.int (2 : Int32)), .val (.long ka), .second, .val (.long kb), .second, .val (.long kc), .second, .val (.long kd), .second, .val (.ref b), .val (.long (((0 : Int64) + ka) + kb)), .second, .unset] []))
    refine own_go (fun tQ kQ => XS.iload X1.here hx rfl (hb hby at_97) rfl kQ) ?_
    show own_End p e below _ (T1.setTop (mkF m 99 #[.val (.int i0), .val (.int i1), .val (.int i2), .val (.int i3), .val (.int i4), .val (.int (2 : Int32)), .val (.long ka), .second, .val (.long kb), .second, .val (.long kc), .second, .val (.long kd), .second, .val (.ref b), .val (.long (((0 : Int64) + ka) + kb)), .second, .unset] [(.int (2 : Int32))]))
    refine own_go (fun tQ kQ => XS.iconst X1.here hx rfl (hb hby at_99) kQ) ?_
    show own_End p e below _ (T1.setTop (mkF m 100 #[.val (.int i0), .val (.int i1), .val (.int i2), .val (.int i3), .val (.int i4), .val (.int (2 : Int32)), .val (.long ka), .second, .val (.long kb), .second, .val (.long kc), .second, .val (.long kd), .second, .val (.ref b), .val (.long (((0 : Int64) + ka) + kb)), .second, .unset] [(.int (3 : Int32)), (.int (2 : Int32))]))
    refine own_go (fun tQ kQ => XS.icmpYes X1.here hx rfl (pc0 := 100) (pc' := 110) rfl (hb hby at_100) rfl (flt (by decide)).2.2.2 (by decide) (by decide) kQ) ?_
    show own_End p e below _ (T1.setTop (mkF m 110 #[.val (.int i0), .val (.int i1), .val (.int i2), .val (.int i3), .val (.int i4), .val (.int (2 : Int32)), .val (.long ka), .second, .val (.long kb), .second, .val (.long kc), .second, .val (.long kd), .second, .val (.ref b), .val (.long (((0 : Int64) + ka) + kb)), .second, .unset] []))
    have hsm : ((((0 : Int64) + ka) + kb)).toInt = own_tot (own_k ka kb kc kd) 2 := own_sum2 hka hkb hkc hkd
    generalize (((0 : Int64) + ka) + kb) = sm at hsm ⊢
    show own_End p e below _ (T1.setTop (mkF m 110 #[.val (.int i0), .val (.int i1), .val (.int i2), .val (.int i3), .val (.int i4), .val (.int (2 : Int32)), .val (.long ka), .second, .val (.long kb), .second, .val (.long kc), .second, .val (.long kd), .second, .val (.ref b), .val (.long sm), .second, .unset] []))
    obtain ⟨T10, h10, X10, e10, E10, A10, D10, -, st10⟩ := newO X1 hx hZ hown (hw _ (List.mem_of_getElem? (i := 7) rfl)) (hw _ (List.mem_of_getElem? (i := 8) rfl)) (hw _ (List.mem_of_getElem? (i := 9) rfl)) rfl (g := (mkF m 110 #[.val (.int i0), .val (.int i1), .val (.int i2), .val (.int i3), .val (.int i4), .val (.int (2 : Int32)), .val (.long ka), .second, .val (.long kb), .second, .val (.long kc), .second, .val (.long kd), .second, .val (.ref b), .val (.long sm), .second, .unset] [])) rfl (hb hby at_110) (by decide) (by decide)
    obtain ⟨o, g10⟩ : ∃ z, z = T1.heap.size := ⟨_, rfl⟩
    rw [← g10] at A10 D10 st10
    have ne_b_o : b ≠ o := Nat.ne_of_lt (Nat.lt_of_lt_of_le V_b.lt (Nat.le_of_eq g10.symm))
    have g_o : n0 ≤ o := Nat.le_trans Zs (Nat.le_of_eq g10.symm)
    have sz_o : h0.size ≤ o := Nat.le_trans szr (Nat.le_of_eq g10.symm)
    have V_b := V_b.ext E10
    have Kp := Kp.ext E10
    have Zs := Nat.le_trans Zs E10.1
    have szr := Nat.le_trans szr E10.1
    have E_o := A10
    have F_makespanSeconds_o : Fld Z h10 o "com/example/tasks_to_slots/taskstoslots/model/PlanLayout$Totals" "makespanSeconds" "D" (.double (0 : UInt64)) := D10 (Or.inr (hw _ (List.mem_of_getElem? (i := 23) rfl))) (ty := .double) (by decide)
    have F_chargesUsd_o : Fld Z h10 o "com/example/tasks_to_slots/taskstoslots/model/PlanLayout$Totals" "chargesUsd" "[D" .null := D10 (Or.inr (hw _ (List.mem_of_getElem? (i := 25) rfl))) (ty := (.array .double)) (by decide)
    have F_vmByTask_o : Fld Z h10 o "com/example/tasks_to_slots/taskstoslots/model/PlanLayout$Totals" "vmByTask" "[I" .null := D10 (Or.inr (hw _ (List.mem_of_getElem? (i := 27) rfl))) (ty := (.array .int)) (by decide)
    refine own_go (fun tQ kQ => st10 tQ kQ) ?_
    show own_End p e below _ (T10.setTop (mkF m 113 #[.val (.int i0), .val (.int i1), .val (.int i2), .val (.int i3), .val (.int i4), .val (.int (2 : Int32)), .val (.long ka), .second, .val (.long kb), .second, .val (.long kc), .second, .val (.long kd), .second, .val (.ref b), .val (.long sm), .second, .unset] [(.ref o)]))
    refine own_go (fun tQ kQ => XS.dup X10.here hx rfl (hb hby at_113) rfl rfl kQ) ?_
    show own_End p e below _ (T10.setTop (mkF m 114 #[.val (.int i0), .val (.int i1), .val (.int i2), .val (.int i3), .val (.int i4), .val (.int (2 : Int32)), .val (.long ka), .second, .val (.long kb), .second, .val (.long kc), .second, .val (.long kd), .second, .val (.ref b), .val (.long sm), .second, .unset] [(.ref o), (.ref o)]))
    refine own_go (fun tQ kQ => XS.dconst0 X10.here hx rfl (hb hby at_114) rfl kQ) ?_
    show own_End p e below _ (T10.setTop (mkF m 115 #[.val (.int i0), .val (.int i1), .val (.int i2), .val (.int i3), .val (.int i4), .val (.int (2 : Int32)), .val (.long ka), .second, .val (.long kb), .second, .val (.long kc), .second, .val (.long kd), .second, .val (.ref b), .val (.long sm), .second, .unset] [(.double (0 : UInt64)), (.ref o), (.ref o)]))
    refine own_go (fun tQ kQ => XS.aload X10.here hx rfl (hb hby at_115) rfl rfl kQ) ?_
    show own_End p e below _ (T10.setTop (mkF m 117 #[.val (.int i0), .val (.int i1), .val (.int i2), .val (.int i3), .val (.int i4), .val (.int (2 : Int32)), .val (.long ka), .second, .val (.long kb), .second, .val (.long kc), .second, .val (.long kd), .second, .val (.ref b), .val (.long sm), .second, .unset] [(.ref b), (.double (0 : UInt64)), (.ref o), (.ref o)]))
    refine own_go (fun tQ kQ => XS.iconst X10.here hx rfl (hb hby at_117) kQ) ?_
    show own_End p e below _ (T10.setTop (mkF m 118 #[.val (.int i0), .val (.int i1), .val (.int i2), .val (.int i3), .val (.int i4), .val (.int (2 : Int32)), .val (.long ka), .second, .val (.long kb), .second, .val (.long kc), .second, .val (.long kd), .second, .val (.ref b), .val (.long sm), .second, .unset] [(.int (0 : Int32)), (.ref b), (.double (0 : UInt64)), (.ref o), (.ref o)]))
    obtain ⟨T11, h11, k11, X11, e11, E11, A11, st11⟩ := newP X10 hx hZ (hw _ (List.mem_of_getElem? (i := 10) rfl)) e10 (g := (mkF m 118 #[.val (.int i0), .val (.int i1), .val (.int i2), .val (.int i3), .val (.int i4), .val (.int (2 : Int32)), .val (.long ka), .second, .val (.long kb), .second, .val (.long kc), .second, .val (.long kd), .second, .val (.ref b), .val (.long sm), .second, .unset] [(.int (0 : Int32)), (.ref b), (.double (0 : UInt64)), (.ref o), (.ref o)])) rfl (hb hby at_118) rfl (by decide) (cap := 0) (by decide) (by decide) (by decide) (by decide)
    obtain ⟨vb, g11⟩ : ∃ z, z = h10.size := ⟨_, rfl⟩
    rw [← g11] at A11 st11
    have ne_b_vb : b ≠ vb := Nat.ne_of_lt (Nat.lt_of_lt_of_le V_b.lt (Nat.le_of_eq g11.symm))
    have ne_o_vb : o ≠ vb := Nat.ne_of_lt (Nat.lt_of_lt_of_le E_o.lt (Nat.le_of_eq g11.symm))
    have g_vb : n0 ≤ vb := Nat.le_trans Zs (Nat.le_of_eq g11.symm)
    have sz_vb : h0.size ≤ vb := Nat.le_trans szr (Nat.le_of_eq g11.symm)
    have V_b := V_b.ext E11
    have E_o := E_o.ext E11
    have F_makespanSeconds_o := F_makespanSeconds_o.ext E11
    have F_chargesUsd_o := F_chargesUsd_o.ext E11
    have F_vmByTask_o := F_vmByTask_o.ext E11
    have Kp := Kp.ext E11
    have Zs := Nat.le_trans Zs E11.1
    have szr := Nat.le_trans szr E11.1
    have V_vb : own_Ar Z h11 vb .int (0 : Int32) (fun _ => (.int (0 : Int32))) := own_Ar.new A11 (by decide)
    refine own_go (fun tQ kQ => st11 tQ kQ) ?_
    show own_End p e below _ (T11.setTop (mkF m 120 #[.val (.int i0), .val (.int i1), .val (.int i2), .val (.int i3), .val (.int i4), .val (.int (2 : Int32)), .val (.long ka), .second, .val (.long kb), .second, .val (.long kc), .second, .val (.long kd), .second, .val (.ref b), .val (.long sm), .second, .unset] [(.ref vb), (.ref b), (.double (0 : UInt64)), (.ref o), (.ref o)]))
    obtain ⟨_, _, ⟨T12, L12, k12, n12⟩, -, X12, ⟨Lc12, hQ12, l12, y12, z12⟩, st12⟩ := X11.specialBack hx (y := (⟨"com/example/tasks_to_slots/taskstoslots/model/PlanLayout$Totals", "<init>", "(D[D[I)V"⟩ : MethodName)) rfl hown (mvT hZ (hw _ (List.mem_of_getElem? (i := 11) rfl))) (mvT hZ (hw _ (List.mem_of_getElem? (i := 12) rfl))) (mvT hZ (hw _ (List.mem_of_getElem? (i := 13) rfl))) (by decide) (backOf (W := 1) (rm2 l Z a0 hw [] o (0 : UInt64) b vb h11 n0 Zs E_o F_makespanSeconds_o F_chargesUsd_o F_vmByTask_o g_o) hZ (hw _ (List.mem_of_getElem? (i := 13) rfl)) (hw _ (List.mem_of_getElem? (i := 9) rfl)) (by decide) (by decide)) (g := (mkF m 120 #[.val (.int i0), .val (.int i1), .val (.int i2), .val (.int i3), .val (.int i4), .val (.int (2 : Int32)), .val (.long ka), .second, .val (.long kb), .second, .val (.long kc), .second, .val (.long kd), .second, .val (.ref b), .val (.long sm), .second, .unset] [(.ref vb), (.ref b), (.double (0 : UInt64)), (.ref o), (.ref o)])) rfl (by rw [hml]; rfl) (Steps.refl _) (a := o) (argsL := [(.double (0 : UInt64)), (.ref b), (.ref vb)]) (rest := [(.ref o)]) (lenOf pd_5 rfl) rfl (by show 2 * 0 + _ ≤ _; exact Nat.le_of_eq rfl) (hb hby at_120) (fun _ _ => ⟨rfl, e11, (Nat.le_of_ble_eq_true rfl), (Nat.le_of_ble_eq_true rfl)⟩)
    dsimp only [Pt.U, Pt.locs, Pt.cells, Pt.slots] at X12 l12 y12 z12 st12 hQ12
    subst l12 y12 z12
    obtain ⟨rfl, N12q, K12, F_makespanSeconds_o, F_chargesUsd_o, F_vmByTask_o⟩ := hQ12
    have Nf := Fr.app Nf N12q
    have V_b := V_b.keep K12 (ninS ne_b_o nin0)
    have E_o := E_o.keep K12
    have V_vb := V_vb.keep K12 (ninS (Ne.symm ne_o_vb) nin0)
    have Kp := Kp.trans K12 (allS (Or.inr sz_o) all0)
    have Zs := Nat.le_trans Zs K12.1
    have szr := Nat.le_trans szr K12.1
    refine own_go (fun tQ kQ => st12.trans kQ) ?_
    show own_End p e below _ (T12.setTop (mkF m 123 #[.val (.int i0), .val (.int i1), .val (.int i2), .val (.int i3), .val (.int i4), .val (.int (2 : Int32)), .val (.long ka), .second, .val (.long kb), .second, .val (.long kc), .second, .val (.long kd), .second, .val (.ref b), .val (.long sm), .second, .unset] [(.ref o)]))
    refine own_go (fun tQ kQ => XS.astore X12.here hx rfl (hb hby at_123) rfl rfl (l' := #[.val (.int i0), .val (.int i1), .val (.int i2), .val (.int i3), .val (.int i4), .val (.int (2 : Int32)), .val (.long ka), .second, .val (.long kb), .second, .val (.long kc), .second, .val (.long kd), .second, .val (.ref b), .val (.long sm), .second, .val (.ref o)]) rfl kQ) ?_
    show own_End p e below _ (T12.setTop (mkF m 125 #[.val (.int i0), .val (.int i1), .val (.int i2), .val (.int i3), .val (.int i4), .val (.int (2 : Int32)), .val (.long ka), .second, .val (.long kb), .second, .val (.long kc), .second, .val (.long kd), .second, .val (.ref b), .val (.long sm), .second, .val (.ref o)] []))
    refine own_go (fun tQ kQ => XS.aload X12.here hx rfl (hb hby at_125) rfl rfl kQ) ?_
    show own_End p e below _ (T12.setTop (mkF m 127 #[.val (.int i0), .val (.int i1), .val (.int i2), .val (.int i3), .val (.int i4), .val (.int (2 : Int32)), .val (.long ka), .second, .val (.long kb), .second, .val (.long kc), .second, .val (.long kd), .second, .val (.ref b), .val (.long sm), .second, .val (.ref o)] [(.ref o)]))
    obtain ⟨cq13, kq13, q13a, q13b, q13c⟩ := isOf hZ rfl E_o
    obtain ⟨_, _, ⟨T13, L13, k13, n13⟩, -, X13, ⟨Lc13, hQ13, l13, y13, z13⟩, st13⟩ := X12.virtualBack hx (y := (⟨"com/example/tasks_to_slots/taskstoslots/model/PlanLayout$Totals", "costUsd", "()D"⟩ : MethodName)) (z := (⟨"com/example/tasks_to_slots/taskstoslots/model/PlanLayout$Totals", "costUsd", "()D"⟩ : MethodName)) hown (mvT hZ (hw _ (List.mem_of_getElem? (i := 28) rfl))) (mvT hZ (hw _ (List.mem_of_getElem? (i := 29) rfl))) (notFace_of_selects (args := #[]) (mvT hZ (hw _ (List.mem_of_getElem? (i := 31) rfl)))) (mvT hZ (hw _ (List.mem_of_getElem? (i := 31) rfl))) (mvT hZ (hw _ (List.mem_of_getElem? (i := 30) rfl))) (by decide) (backOf (W := 0) (rm3 l Z a0 hw [] o b (2 : Int32) 2 (own_k ka kb kc kd) T12.heap n0 Zs F_chargesUsd_o V_b (by decide) (by decide) (own_k_ok hka hkb hkc hkd)) hZ (hw _ (List.mem_of_getElem? (i := 32) rfl)) (hw _ (List.mem_of_getElem? (i := 9) rfl)) (by decide) (by decide)) q13a q13c (g := (mkF m 127 #[.val (.int i0), .val (.int i1), .val (.int i2), .val (.int i3), .val (.int i4), .val (.int (2 : Int32)), .val (.long ka), .second, .val (.long kb), .second, .val (.long kc), .second, .val (.long kd), .second, .val (.ref b), .val (.long sm), .second, .val (.ref o)] [(.ref o)])) rfl (by rw [hml]; rfl) (Steps.refl _) (argsL := []) (rest := []) (lenOf pd_6 rfl) rfl (by show 2 * 0 + _ ≤ _; exact Nat.le_of_eq rfl) (hb hby at_127) (fun _ _ => ⟨rfl, rfl, (Nat.le_of_ble_eq_true rfl), (Nat.le_of_ble_eq_true rfl)⟩)
    dsimp only [Pt.U, Pt.locs, Pt.cells, Pt.slots] at X13 l13 y13 z13 st13 hQ13
    subst l13 y13 z13
    obtain ⟨rfl, N13q, e13⟩ := hQ13
    have Nf := Fr.app Nf N13q
    refine own_go (fun tQ kQ => st13.trans kQ) ?_
    show own_End p e below _ (T13.setTop (mkF m 130 #[.val (.int i0), .val (.int i1), .val (.int i2), .val (.int i3), .val (.int i4), .val (.int (2 : Int32)), .val (.long ka), .second, .val (.long kb), .second, .val (.long kc), .second, .val (.long kd), .second, .val (.ref b), .val (.long sm), .second, .val (.ref o)] [(.double (own_acc (own_k ka kb kc kd) 2))]))
    have hQ := (own_acc_Q (own_k ka kb kc kd) (own_k_ok hka hkb hkc hkd) 2 (by decide))
    have hQ2 : own_Q (own_tot (own_k ka kb kc kd) 2) (FP.ddiv (FP.l2d sm) (4616189618054758400 : UInt64)) := by rw [← hsm]; exact own_Q_div (by have := hQ.2; omega)
    refine own_go (fun tQ kQ => XS.lload X13.here hx rfl (hb hby at_130) rfl kQ) ?_
    show own_End p e below _ (T13.setTop (mkF m 132 #[.val (.int i0), .val (.int i1), .val (.int i2), .val (.int i3), .val (.int i4), .val (.int (2 : Int32)), .val (.long ka), .second, .val (.long kb), .second, .val (.long kc), .second, .val (.long kd), .second, .val (.ref b), .val (.long sm), .second, .val (.ref o)] [(.long sm), (.double (own_acc (own_k ka kb kc kd) 2))]))
    refine own_go (fun tQ kQ => XS.l2dS X13.here hx rfl (hb hby at_132) rfl rfl kQ) ?_
    show own_End p e below _ (T13.setTop (mkF m 133 #[.val (.int i0), .val (.int i1), .val (.int i2), .val (.int i3), .val (.int i4), .val (.int (2 : Int32)), .val (.long ka), .second, .val (.long kb), .second, .val (.long kc), .second, .val (.long kd), .second, .val (.ref b), .val (.long sm), .second, .val (.ref o)] [(.double (FP.l2d sm)), (.double (own_acc (own_k ka kb kc kd) 2))]))
    refine own_go (fun tQ kQ => X13.ldc2DoubleC hx hown (mvT hZ (hw _ (List.mem_of_getElem? (i := 33) rfl))) (g := (mkF m 133 #[.val (.int i0), .val (.int i1), .val (.int i2), .val (.int i3), .val (.int i4), .val (.int (2 : Int32)), .val (.long ka), .second, .val (.long kb), .second, .val (.long kc), .second, .val (.long kd), .second, .val (.ref b), .val (.long sm), .second, .val (.ref o)] [(.double (FP.l2d sm)), (.double (own_acc (own_k ka kb kc kd) 2))])) rfl (hb hby at_133) _ kQ) ?_
    show own_End p e below _ (T13.setTop (mkF m 136 #[.val (.int i0), .val (.int i1), .val (.int i2), .val (.int i3), .val (.int i4), .val (.int (2 : Int32)), .val (.long ka), .second, .val (.long kb), .second, .val (.long kc), .second, .val (.long kd), .second, .val (.ref b), .val (.long sm), .second, .val (.ref o)] [(.double (4616189618054758400 : UInt64)), (.double (FP.l2d sm)), (.double (own_acc (own_k ka kb kc kd) 2))]))
    refine own_go (fun tQ kQ => XS.ddivS X13.here hx rfl (hb hby at_136) rfl (own_Q_nn hQ2) rfl kQ) ?_
    show own_End p e below _ (T13.setTop (mkF m 137 #[.val (.int i0), .val (.int i1), .val (.int i2), .val (.int i3), .val (.int i4), .val (.int (2 : Int32)), .val (.long ka), .second, .val (.long kb), .second, .val (.long kc), .second, .val (.long kd), .second, .val (.ref b), .val (.long sm), .second, .val (.ref o)] [(.double (FP.ddiv (FP.l2d sm) (4616189618054758400 : UInt64))), (.double (own_acc (own_k ka kb kc kd) 2))]))
    refine own_go (fun tQ kQ => XS.dcmpS X13.here hx rfl (hb hby at_137) rfl rfl kQ) ?_
    show own_End p e below _ (T13.setTop (mkF m 138 #[.val (.int i0), .val (.int i1), .val (.int i2), .val (.int i3), .val (.int i4), .val (.int (2 : Int32)), .val (.long ka), .second, .val (.long kb), .second, .val (.long kc), .second, .val (.long kd), .second, .val (.ref b), .val (.long sm), .second, .val (.ref o)] [(.int (cmpValue (FP.dcmp (own_acc (own_k ka kb kc kd) 2) (FP.ddiv (FP.l2d sm) (4616189618054758400 : UInt64))) .l))]))
    refine own_go (fun tQ kQ => XS.ifNo X13.here hx rfl (hb hby at_138) rfl ((if0 _ _).trans (teq (own_Q_cmp hQ.1 hQ2 .l)).2) kQ) ?_
    show own_End p e below _ (T13.setTop (mkF m 141 #[.val (.int i0), .val (.int i1), .val (.int i2), .val (.int i3), .val (.int i4), .val (.int (2 : Int32)), .val (.long ka), .second, .val (.long kb), .second, .val (.long kc), .second, .val (.long kd), .second, .val (.ref b), .val (.long sm), .second, .val (.ref o)] []))
    refine own_go (fun tQ kQ => XS.iconst X13.here hx rfl (hb hby at_141) kQ) ?_
    show own_End p e below _ (T13.setTop (mkF m 142 #[.val (.int i0), .val (.int i1), .val (.int i2), .val (.int i3), .val (.int i4), .val (.int (2 : Int32)), .val (.long ka), .second, .val (.long kb), .second, .val (.long kc), .second, .val (.long kd), .second, .val (.ref b), .val (.long sm), .second, .val (.ref o)] [(.int (1 : Int32))]))
    refine own_go (fun tQ kQ => XS.goto X13.here hx rfl (pc0 := 142) (pc' := 146) rfl (hb hby at_142) (by decide) (by decide) kQ) ?_
    show own_End p e below _ (T13.setTop (mkF m 146 #[.val (.int i0), .val (.int i1), .val (.int i2), .val (.int i3), .val (.int i4), .val (.int (2 : Int32)), .val (.long ka), .second, .val (.long kb), .second, .val (.long kc), .second, .val (.long kd), .second, .val (.ref b), .val (.long sm), .second, .val (.ref o)] [(.int (1 : Int32))]))
    obtain ⟨fs, hr, hrun, hended, hW, hsame⟩ := X13.leave (v := some (.int (1 : Int32))) (fun h => by rw [Bd.returns] at h; cases h)
    refine ⟨_, _, (retN X13 hx (t := .boolean) Bd.returns (by simp) (hb hby at_146) hr), hrun, hended, _, _, rfl, ?_, ⟨_, rfl⟩, hW, hsame.mono (by decide) (by decide)⟩
    show Q0 Z i0 i1 i2 i3 i4 h0 n0 _ T13.heap _
    rw [e13]
    exact ⟨rfl, Nf⟩
  ·
    show own_End p e below _ (T1.setTop (mkF m 59 #[.val (.int i0), .val (.int i1), .val (.int i2), .val (.int i3), .val (.int i4), .val (.int (3 : Int32)), .val (.long ka), .second, .val (.long kb), .second, .val (.long kc), .second, .val (.long kd), .second, .val (.ref b), .val (.long (0 : Int64)), .second, .unset] []))
    refine own_go (fun tQ kQ => XS.iload X1.here hx rfl (hb hby at_59) rfl kQ) ?_
    show own_End p e below _ (T1.setTop (mkF m 61 #[.val (.int i0), .val (.int i1), .val (.int i2), .val (.int i3), .val (.int i4), .val (.int (3 : Int32)), .val (.long ka), .second, .val (.long kb), .second, .val (.long kc), .second, .val (.long kd), .second, .val (.ref b), .val (.long (0 : Int64)), .second, .unset] [(.int (3 : Int32))]))
    refine own_go (fun tQ kQ => XS.ifNo X1.here hx rfl (hb hby at_61) rfl ((if0 _ _).trans (tlt (by decide)).2.2.2) kQ) ?_
    show own_End p e below _ (T1.setTop (mkF m 64 #[.val (.int i0), .val (.int i1), .val (.int i2), .val (.int i3), .val (.int i4), .val (.int (3 : Int32)), .val (.long ka), .second, .val (.long kb), .second, .val (.long kc), .second, .val (.long kd), .second, .val (.ref b), .val (.long (0 : Int64)), .second, .unset] []))
    refine own_go (fun tQ kQ => XS.lload X1.here hx rfl (hb hby at_64) rfl kQ) ?_
    show own_End p e below _ (T1.setTop (mkF m 66 #[.val (.int i0), .val (.int i1), .val (.int i2), .val (.int i3), .val (.int i4), .val (.int (3 : Int32)), .val (.long ka), .second, .val (.long kb), .second, .val (.long kc), .second, .val (.long kd), .second, .val (.ref b), .val (.long (0 : Int64)), .second, .unset] [(.long (0 : Int64))]))
    refine own_go (fun tQ kQ => XS.lload X1.here hx rfl (hb hby at_66) rfl kQ) ?_
    show own_End p e below _ (T1.setTop (mkF m 68 #[.val (.int i0), .val (.int i1), .val (.int i2), .val (.int i3), .val (.int i4), .val (.int (3 : Int32)), .val (.long ka), .second, .val (.long kb), .second, .val (.long kc), .second, .val (.long kd), .second, .val (.ref b), .val (.long (0 : Int64)), .second, .unset] [(.long ka), (.long (0 : Int64))]))
    refine own_go (fun tQ kQ => XS.ladd X1.here hx rfl (hb hby at_68) rfl kQ) ?_
    show own_End p e below _ (T1.setTop (mkF m 69 #[.val (.int i0), .val (.int i1), .val (.int i2), .val (.int i3), .val (.int i4), .val (.int (3 : Int32)), .val (.long ka), .second, .val (.long kb), .second, .val (.long kc), .second, .val (.long kd), .second, .val (.ref b), .val (.long (0 : Int64)), .second, .unset] [(.long ((0 : Int64) + ka))]))
    refine own_go (fun tQ kQ => XS.lstore X1.here hx rfl (hb hby at_69) rfl (l' := #[.val (.int i0), .val (.int i1), .val (.int i2), .val (.int i3), .val (.int i4), .val (.int (3 : Int32)), .val (.long ka), .second, .val (.long kb), .second, .val (.long kc), .second, .val (.long kd), .second, .val (.ref b), .val (.long ((0 : Int64) + ka)), .second, .unset]) rfl kQ) ?_
    show own_End p e below _ (T1.setTop (mkF m 71 #[.val (.int i0), .val (.int i1), .val (.int i2), .val (.int i3), .val (.int i4), .val (.int (3 : Int32)), .val (.long ka), .second, .val (.long kb), .second, .val (.long kc), .second, .val (.long kd), .second, .val (.ref b), .val (.long ((0 : Int64) + ka)), .second, .unset] []))
    refine own_go (fun tQ kQ => XS.iload X1.here hx rfl (hb hby at_71) rfl kQ) ?_
    show own_End p e below _ (T1.setTop (mkF m 73 #[.val (.int i0), .val (.int i1), .val (.int i2), .val (.int i3), .val (.int i4), .val (.int (3 : Int32)), .val (.long ka), .second, .val (.long kb), .second, .val (.long kc), .second, .val (.long kd), .second, .val (.ref b), .val (.long ((0 : Int64) + ka)), .second, .unset] [(.int (3 : Int32))]))
    refine own_go (fun tQ kQ => XS.iconst X1.here hx rfl (hb hby at_73) kQ) ?_
    show own_End p e below _ (T1.setTop (mkF m 74 #[.val (.int i0), .val (.int i1), .val (.int i2), .val (.int i3), .val (.int i4), .val (.int (3 : Int32)), .val (.long ka), .second, .val (.long kb), .second, .val (.long kc), .second, .val (.long kd), .second, .val (.ref b), .val (.long ((0 : Int64) + ka)), .second, .unset] [(.int (1 : Int32)), (.int (3 : Int32))]))
    refine own_go (fun tQ kQ => XS.icmpNo X1.here hx rfl (hb hby at_74) rfl (tlt (by decide)).2.2.2 kQ) ?_
    show own_End p e below _ (T1.setTop (mkF m 77 #[.val (.int i0), .val (.int i1), .val (.int i2), .val (.int i3), .val (.int i4), .val (.int (3 : Int32)), .val (.long ka), .second, .val (.long kb), .second, .val (.long kc), .second, .val (.long kd), .second, .val (.ref b), .val (.long ((0 : Int64) + ka)), .second, .unset] []))
    refine own_go (fun tQ kQ => XS.lload X1.here hx rfl (hb hby at_77) rfl kQ) ?_
    show own_End p e below _ (T1.setTop (mkF m 79 #[.val (.int i0), .val (.int i1), .val (.int i2), .val (.int i3), .val (.int i4), .val (.int (3 : Int32)), .val (.long ka), .second, .val (.long kb), .second, .val (.long kc), .second, .val (.long kd), .second, .val (.ref b), .val (.long ((0 : Int64) + ka)), .second, .unset] [(.long ((0 : Int64) + ka))]))
    refine own_go (fun tQ kQ => XS.lload X1.here hx rfl (hb hby at_79) rfl kQ) ?_
    show own_End p e below _ (T1.setTop (mkF m 81 #[.val (.int i0), .val (.int i1), .val (.int i2), .val (.int i3), .val (.int i4), .val (.int (3 : Int32)), .val (.long ka), .second, .val (.long kb), .second, .val (.long kc), .second, .val (.long kd), .second, .val (.ref b), .val (.long ((0 : Int64) + ka)), .second, .unset] [(.long kb), (.long ((0 : Int64) + ka))]))
    refine own_go (fun tQ kQ => XS.ladd X1.here hx rfl (hb hby at_81) rfl kQ) ?_
    show own_End p e below _ (T1.setTop (mkF m 82 #[.val (.int i0), .val (.int i1), .val (.int i2), .val (.int i3), .val (.int i4), .val (.int (3 : Int32)), .val (.long ka), .second, .val (.long kb), .second, .val (.long kc), .second, .val (.long kd), .second, .val (.ref b), .val (.long ((0 : Int64) + ka)), .second, .unset] [(.long (((0 : Int64) + ka) + kb))]))
    refine own_go (fun tQ kQ => XS.lstore X1.here hx rfl (hb hby at_82) rfl (l' := #[.val (.int i0), .val (.int i1), .val (.int i2), .val (.int i3), .val (.int i4), .val (.int (3 : Int32)), .val (.long ka), .second, .val (.long kb), .second, .val (.long kc), .second, .val (.long kd), .second, .val (.ref b), .val (.long (((0 : Int64) + ka) + kb)), .second, .unset]) rfl kQ) ?_
    show own_End p e below _ (T1.setTop (mkF m 84 #[.val (.int i0), .val (.int i1), .val (.int i2), .val (.int i3), .val (.int i4), .val (.int (3 : Int32)), .val (.long ka), .second, .val (.long kb), .second, .val (.long kc), .second, .val (.long kd), .second, .val (.ref b), .val (.long (((0 : Int64) + ka) + kb)), .second, .unset] []))
    refine own_go (fun tQ kQ => XS.iload X1.here hx rfl (hb hby at_84) rfl kQ) ?_
    show own_End p e below _ (T1.setTop (mkF m 86 #[.val (.int i0), .val (.int i1), .val (.int i2), .val (.int i3), .val (.int i4), .val (.int (3 : Int32)), .val (.long ka), .second, .val (.long kb), .second, .val (.long kc), .second, .val (.long kd), .second, .val (.ref b), .val (.long (((0 : Int64) + ka) + kb)), .second, .unset] [(.int (3 : Int32))]))
    refine own_go (fun tQ kQ => XS.iconst X1.here hx rfl (hb hby at_86) kQ) ?_
    show own_End p e below _ (T1.setTop (mkF m 87 #[.val (.int i0), .val (.int i1), .val (.int i2), .val (.int i3), .val (.int i4), .val (.int (3 : Int32)), .val (.long ka), .second, .val (.long kb), .second, .val (.long kc), .second, .val (.long kd), .second, .val (.ref b), .val (.long (((0 : Int64) + ka) + kb)), .second, .unset] [(.int (2 : Int32)), (.int (3 : Int32))]))
    refine own_go (fun tQ kQ => XS.icmpNo X1.here hx rfl (hb hby at_87) rfl (tlt (by decide)).2.2.2 kQ) ?_
    show own_End p e below _ (T1.setTop (mkF m 90 #[.val (.int i0), .val (.int i1), .val (.int i2), .val (.int i3), .val (.int i4), .val (.int (3 : Int32)), .val (.long ka), .second, .val (.long kb), .second, .val (.long kc), .second, .val (.long kd), .second, .val (.ref b), .val (.long (((0 : Int64) + ka) + kb)), .second, .unset] []))
    refine own_go (fun tQ kQ => XS.lload X1.here hx rfl (hb hby at_90) rfl kQ) ?_
    show own_End p e below _ (T1.setTop (mkF m 92 #[.val (.int i0), .val (.int i1), .val (.int i2), .val (.int i3), .val (.int i4), .val (.int (3 : Int32)), .val (.long ka), .second, .val (.long kb), .second, .val (.long kc), .second, .val (.long kd), .second, .val (.ref b), .val (.long (((0 : Int64) + ka) + kb)), .second, .unset] [(.long (((0 : Int64) + ka) + kb))]))
    refine own_go (fun tQ kQ => XS.lload X1.here hx rfl (hb hby at_92) rfl kQ) ?_
    show own_End p e below _ (T1.setTop (mkF m 94 #[.val (.int i0), .val (.int i1), .val (.int i2), .val (.int i3), .val (.int i4), .val (.int (3 : Int32)), .val (.long ka), .second, .val (.long kb), .second, .val (.long kc), .second, .val (.long kd), .second, .val (.ref b), .val (.long (((0 : Int64) + ka) + kb)), .second, .unset] [(.long kc), (.long (((0 : Int64) + ka) + kb))]))
    refine own_go (fun tQ kQ => XS.ladd X1.here hx rfl (hb hby at_94) rfl kQ) ?_
    show own_End p e below _ (T1.setTop (mkF m 95 #[.val (.int i0), .val (.int i1), .val (.int i2), .val (.int i3), .val (.int i4), .val (.int (3 : Int32)), .val (.long ka), .second, .val (.long kb), .second, .val (.long kc), .second, .val (.long kd), .second, .val (.ref b), .val (.long (((0 : Int64) + ka) + kb)), .second, .unset] [(.long ((((0 : Int64) + ka) + kb) + kc))]))
    refine own_go (fun tQ kQ => XS.lstore X1.here hx rfl (hb hby at_95) rfl (l' := #[.val (.int i0), .val (.int i1), .val (.int i2), .val (.int i3), .val (.int i4), .val (.int (3 : Int32)), .val (.long ka), .second, .val (.long kb), .second, .val (.long kc), .second, .val (.long kd), .second, .val (.ref b), .val (.long ((((0 : Int64) + ka) + kb) + kc)), .second, .unset]) rfl kQ) ?_
    show own_End p e below _ (T1.setTop (mkF m 97 #[.val (.int i0), .val (.int i1), .val (.int i2), .val (.int i3), .val (.int i4), .val (.int (3 : Int32)), .val (.long ka), .second, .val (.long kb), .second, .val (.long kc), .second, .val (.long kd), .second, .val (.ref b), .val (.long ((((0 : Int64) + ka) + kb) + kc)), .second, .unset] []))
    refine own_go (fun tQ kQ => XS.iload X1.here hx rfl (hb hby at_97) rfl kQ) ?_
    show own_End p e below _ (T1.setTop (mkF m 99 #[.val (.int i0), .val (.int i1), .val (.int i2), .val (.int i3), .val (.int i4), .val (.int (3 : Int32)), .val (.long ka), .second, .val (.long kb), .second, .val (.long kc), .second, .val (.long kd), .second, .val (.ref b), .val (.long ((((0 : Int64) + ka) + kb) + kc)), .second, .unset] [(.int (3 : Int32))]))
    refine own_go (fun tQ kQ => XS.iconst X1.here hx rfl (hb hby at_99) kQ) ?_
    show own_End p e below _ (T1.setTop (mkF m 100 #[.val (.int i0), .val (.int i1), .val (.int i2), .val (.int i3), .val (.int i4), .val (.int (3 : Int32)), .val (.long ka), .second, .val (.long kb), .second, .val (.long kc), .second, .val (.long kd), .second, .val (.ref b), .val (.long ((((0 : Int64) + ka) + kb) + kc)), .second, .unset] [(.int (3 : Int32)), (.int (3 : Int32))]))
    refine own_go (fun tQ kQ => XS.icmpYes X1.here hx rfl (pc0 := 100) (pc' := 110) rfl (hb hby at_100) rfl (flt (by decide)).2.2.2 (by decide) (by decide) kQ) ?_
    show own_End p e below _ (T1.setTop (mkF m 110 #[.val (.int i0), .val (.int i1), .val (.int i2), .val (.int i3), .val (.int i4), .val (.int (3 : Int32)), .val (.long ka), .second, .val (.long kb), .second, .val (.long kc), .second, .val (.long kd), .second, .val (.ref b), .val (.long ((((0 : Int64) + ka) + kb) + kc)), .second, .unset] []))
    have hsm : (((((0 : Int64) + ka) + kb) + kc)).toInt = own_tot (own_k ka kb kc kd) 3 := own_sum3 hka hkb hkc hkd
    generalize ((((0 : Int64) + ka) + kb) + kc) = sm at hsm ⊢
    show own_End p e below _ (T1.setTop (mkF m 110 #[.val (.int i0), .val (.int i1), .val (.int i2), .val (.int i3), .val (.int i4), .val (.int (3 : Int32)), .val (.long ka), .second, .val (.long kb), .second, .val (.long kc), .second, .val (.long kd), .second, .val (.ref b), .val (.long sm), .second, .unset] []))
    obtain ⟨T14, h14, X14, e14, E14, A14, D14, -, st14⟩ := newO X1 hx hZ hown (hw _ (List.mem_of_getElem? (i := 7) rfl)) (hw _ (List.mem_of_getElem? (i := 8) rfl)) (hw _ (List.mem_of_getElem? (i := 9) rfl)) rfl (g := (mkF m 110 #[.val (.int i0), .val (.int i1), .val (.int i2), .val (.int i3), .val (.int i4), .val (.int (3 : Int32)), .val (.long ka), .second, .val (.long kb), .second, .val (.long kc), .second, .val (.long kd), .second, .val (.ref b), .val (.long sm), .second, .unset] [])) rfl (hb hby at_110) (by decide) (by decide)
    obtain ⟨o, g14⟩ : ∃ z, z = T1.heap.size := ⟨_, rfl⟩
    rw [← g14] at A14 D14 st14
    have ne_b_o : b ≠ o := Nat.ne_of_lt (Nat.lt_of_lt_of_le V_b.lt (Nat.le_of_eq g14.symm))
    have g_o : n0 ≤ o := Nat.le_trans Zs (Nat.le_of_eq g14.symm)
    have sz_o : h0.size ≤ o := Nat.le_trans szr (Nat.le_of_eq g14.symm)
    have V_b := V_b.ext E14
    have Kp := Kp.ext E14
    have Zs := Nat.le_trans Zs E14.1
    have szr := Nat.le_trans szr E14.1
    have E_o := A14
    have F_makespanSeconds_o : Fld Z h14 o "com/example/tasks_to_slots/taskstoslots/model/PlanLayout$Totals" "makespanSeconds" "D" (.double (0 : UInt64)) := D14 (Or.inr (hw _ (List.mem_of_getElem? (i := 23) rfl))) (ty := .double) (by decide)
    have F_chargesUsd_o : Fld Z h14 o "com/example/tasks_to_slots/taskstoslots/model/PlanLayout$Totals" "chargesUsd" "[D" .null := D14 (Or.inr (hw _ (List.mem_of_getElem? (i := 25) rfl))) (ty := (.array .double)) (by decide)
    have F_vmByTask_o : Fld Z h14 o "com/example/tasks_to_slots/taskstoslots/model/PlanLayout$Totals" "vmByTask" "[I" .null := D14 (Or.inr (hw _ (List.mem_of_getElem? (i := 27) rfl))) (ty := (.array .int)) (by decide)
    refine own_go (fun tQ kQ => st14 tQ kQ) ?_
    show own_End p e below _ (T14.setTop (mkF m 113 #[.val (.int i0), .val (.int i1), .val (.int i2), .val (.int i3), .val (.int i4), .val (.int (3 : Int32)), .val (.long ka), .second, .val (.long kb), .second, .val (.long kc), .second, .val (.long kd), .second, .val (.ref b), .val (.long sm), .second, .unset] [(.ref o)]))
    refine own_go (fun tQ kQ => XS.dup X14.here hx rfl (hb hby at_113) rfl rfl kQ) ?_
    show own_End p e below _ (T14.setTop (mkF m 114 #[.val (.int i0), .val (.int i1), .val (.int i2), .val (.int i3), .val (.int i4), .val (.int (3 : Int32)), .val (.long ka), .second, .val (.long kb), .second, .val (.long kc), .second, .val (.long kd), .second, .val (.ref b), .val (.long sm), .second, .unset] [(.ref o), (.ref o)]))
    refine own_go (fun tQ kQ => XS.dconst0 X14.here hx rfl (hb hby at_114) rfl kQ) ?_
    show own_End p e below _ (T14.setTop (mkF m 115 #[.val (.int i0), .val (.int i1), .val (.int i2), .val (.int i3), .val (.int i4), .val (.int (3 : Int32)), .val (.long ka), .second, .val (.long kb), .second, .val (.long kc), .second, .val (.long kd), .second, .val (.ref b), .val (.long sm), .second, .unset] [(.double (0 : UInt64)), (.ref o), (.ref o)]))
    refine own_go (fun tQ kQ => XS.aload X14.here hx rfl (hb hby at_115) rfl rfl kQ) ?_
    show own_End p e below _ (T14.setTop (mkF m 117 #[.val (.int i0), .val (.int i1), .val (.int i2), .val (.int i3), .val (.int i4), .val (.int (3 : Int32)), .val (.long ka), .second, .val (.long kb), .second, .val (.long kc), .second, .val (.long kd), .second, .val (.ref b), .val (.long sm), .second, .unset] [(.ref b), (.double (0 : UInt64)), (.ref o), (.ref o)]))
    refine own_go (fun tQ kQ => XS.iconst X14.here hx rfl (hb hby at_117) kQ) ?_
    show own_End p e below _ (T14.setTop (mkF m 118 #[.val (.int i0), .val (.int i1), .val (.int i2), .val (.int i3), .val (.int i4), .val (.int (3 : Int32)), .val (.long ka), .second, .val (.long kb), .second, .val (.long kc), .second, .val (.long kd), .second, .val (.ref b), .val (.long sm), .second, .unset] [(.int (0 : Int32)), (.ref b), (.double (0 : UInt64)), (.ref o), (.ref o)]))
    obtain ⟨T15, h15, k15, X15, e15, E15, A15, st15⟩ := newP X14 hx hZ (hw _ (List.mem_of_getElem? (i := 10) rfl)) e14 (g := (mkF m 118 #[.val (.int i0), .val (.int i1), .val (.int i2), .val (.int i3), .val (.int i4), .val (.int (3 : Int32)), .val (.long ka), .second, .val (.long kb), .second, .val (.long kc), .second, .val (.long kd), .second, .val (.ref b), .val (.long sm), .second, .unset] [(.int (0 : Int32)), (.ref b), (.double (0 : UInt64)), (.ref o), (.ref o)])) rfl (hb hby at_118) rfl (by decide) (cap := 0) (by decide) (by decide) (by decide) (by decide)
    obtain ⟨vb, g15⟩ : ∃ z, z = h14.size := ⟨_, rfl⟩
    rw [← g15] at A15 st15
    have ne_b_vb : b ≠ vb := Nat.ne_of_lt (Nat.lt_of_lt_of_le V_b.lt (Nat.le_of_eq g15.symm))
    have ne_o_vb : o ≠ vb := Nat.ne_of_lt (Nat.lt_of_lt_of_le E_o.lt (Nat.le_of_eq g15.symm))
    have g_vb : n0 ≤ vb := Nat.le_trans Zs (Nat.le_of_eq g15.symm)
    have sz_vb : h0.size ≤ vb := Nat.le_trans szr (Nat.le_of_eq g15.symm)
    have V_b := V_b.ext E15
    have E_o := E_o.ext E15
    have F_makespanSeconds_o := F_makespanSeconds_o.ext E15
    have F_chargesUsd_o := F_chargesUsd_o.ext E15
    have F_vmByTask_o := F_vmByTask_o.ext E15
    have Kp := Kp.ext E15
    have Zs := Nat.le_trans Zs E15.1
    have szr := Nat.le_trans szr E15.1
    have V_vb : own_Ar Z h15 vb .int (0 : Int32) (fun _ => (.int (0 : Int32))) := own_Ar.new A15 (by decide)
    refine own_go (fun tQ kQ => st15 tQ kQ) ?_
    show own_End p e below _ (T15.setTop (mkF m 120 #[.val (.int i0), .val (.int i1), .val (.int i2), .val (.int i3), .val (.int i4), .val (.int (3 : Int32)), .val (.long ka), .second, .val (.long kb), .second, .val (.long kc), .second, .val (.long kd), .second, .val (.ref b), .val (.long sm), .second, .unset] [(.ref vb), (.ref b), (.double (0 : UInt64)), (.ref o), (.ref o)]))
    obtain ⟨_, _, ⟨T16, L16, k16, n16⟩, -, X16, ⟨Lc16, hQ16, l16, y16, z16⟩, st16⟩ := X15.specialBack hx (y := (⟨"com/example/tasks_to_slots/taskstoslots/model/PlanLayout$Totals", "<init>", "(D[D[I)V"⟩ : MethodName)) rfl hown (mvT hZ (hw _ (List.mem_of_getElem? (i := 11) rfl))) (mvT hZ (hw _ (List.mem_of_getElem? (i := 12) rfl))) (mvT hZ (hw _ (List.mem_of_getElem? (i := 13) rfl))) (by decide) (backOf (W := 1) (rm2 l Z a0 hw [] o (0 : UInt64) b vb h15 n0 Zs E_o F_makespanSeconds_o F_chargesUsd_o F_vmByTask_o g_o) hZ (hw _ (List.mem_of_getElem? (i := 13) rfl)) (hw _ (List.mem_of_getElem? (i := 9) rfl)) (by decide) (by decide)) (g := (mkF m 120 #[.val (.int i0), .val (.int i1), .val (.int i2), .val (.int i3), .val (.int i4), .val (.int (3 : Int32)), .val (.long ka), .second, .val (.long kb), .second, .val (.long kc), .second, .val (.long kd), .second, .val (.ref b), .val (.long sm), .second, .unset] [(.ref vb), (.ref b), (.double (0 : UInt64)), (.ref o), (.ref o)])) rfl (by rw [hml]; rfl) (Steps.refl _) (a := o) (argsL := [(.double (0 : UInt64)), (.ref b), (.ref vb)]) (rest := [(.ref o)]) (lenOf pd_5 rfl) rfl (by show 2 * 0 + _ ≤ _; exact Nat.le_of_eq rfl) (hb hby at_120) (fun _ _ => ⟨rfl, e15, (Nat.le_of_ble_eq_true rfl), (Nat.le_of_ble_eq_true rfl)⟩)
    dsimp only [Pt.U, Pt.locs, Pt.cells, Pt.slots] at X16 l16 y16 z16 st16 hQ16
    subst l16 y16 z16
    obtain ⟨rfl, N16q, K16, F_makespanSeconds_o, F_chargesUsd_o, F_vmByTask_o⟩ := hQ16
    have Nf := Fr.app Nf N16q
    have V_b := V_b.keep K16 (ninS ne_b_o nin0)
    have E_o := E_o.keep K16
    have V_vb := V_vb.keep K16 (ninS (Ne.symm ne_o_vb) nin0)
    have Kp := Kp.trans K16 (allS (Or.inr sz_o) all0)
    have Zs := Nat.le_trans Zs K16.1
    have szr := Nat.le_trans szr K16.1
    refine own_go (fun tQ kQ => st16.trans kQ) ?_
    show own_End p e below _ (T16.setTop (mkF m 123 #[.val (.int i0), .val (.int i1), .val (.int i2), .val (.int i3), .val (.int i4), .val (.int (3 : Int32)), .val (.long ka), .second, .val (.long kb), .second, .val (.long kc), .second, .val (.long kd), .second, .val (.ref b), .val (.long sm), .second, .unset] [(.ref o)]))
    refine own_go (fun tQ kQ => XS.astore X16.here hx rfl (hb hby at_123) rfl rfl (l' := #[.val (.int i0), .val (.int i1), .val (.int i2), .val (.int i3), .val (.int i4), .val (.int (3 : Int32)), .val (.long ka), .second, .val (.long kb), .second, .val (.long kc), .second, .val (.long kd), .second, .val (.ref b), .val (.long sm), .second, .val (.ref o)]) rfl kQ) ?_
    show own_End p e below _ (T16.setTop (mkF m 125 #[.val (.int i0), .val (.int i1), .val (.int i2), .val (.int i3), .val (.int i4), .val (.int (3 : Int32)), .val (.long ka), .second, .val (.long kb), .second, .val (.long kc), .second, .val (.long kd), .second, .val (.ref b), .val (.long sm), .second, .val (.ref o)] []))
    refine own_go (fun tQ kQ => XS.aload X16.here hx rfl (hb hby at_125) rfl rfl kQ) ?_
    show own_End p e below _ (T16.setTop (mkF m 127 #[.val (.int i0), .val (.int i1), .val (.int i2), .val (.int i3), .val (.int i4), .val (.int (3 : Int32)), .val (.long ka), .second, .val (.long kb), .second, .val (.long kc), .second, .val (.long kd), .second, .val (.ref b), .val (.long sm), .second, .val (.ref o)] [(.ref o)]))
    obtain ⟨cq17, kq17, q17a, q17b, q17c⟩ := isOf hZ rfl E_o
    obtain ⟨_, _, ⟨T17, L17, k17, n17⟩, -, X17, ⟨Lc17, hQ17, l17, y17, z17⟩, st17⟩ := X16.virtualBack hx (y := (⟨"com/example/tasks_to_slots/taskstoslots/model/PlanLayout$Totals", "costUsd", "()D"⟩ : MethodName)) (z := (⟨"com/example/tasks_to_slots/taskstoslots/model/PlanLayout$Totals", "costUsd", "()D"⟩ : MethodName)) hown (mvT hZ (hw _ (List.mem_of_getElem? (i := 28) rfl))) (mvT hZ (hw _ (List.mem_of_getElem? (i := 29) rfl))) (notFace_of_selects (args := #[]) (mvT hZ (hw _ (List.mem_of_getElem? (i := 31) rfl)))) (mvT hZ (hw _ (List.mem_of_getElem? (i := 31) rfl))) (mvT hZ (hw _ (List.mem_of_getElem? (i := 30) rfl))) (by decide) (backOf (W := 0) (rm3 l Z a0 hw [] o b (3 : Int32) 3 (own_k ka kb kc kd) T16.heap n0 Zs F_chargesUsd_o V_b (by decide) (by decide) (own_k_ok hka hkb hkc hkd)) hZ (hw _ (List.mem_of_getElem? (i := 32) rfl)) (hw _ (List.mem_of_getElem? (i := 9) rfl)) (by decide) (by decide)) q17a q17c (g := (mkF m 127 #[.val (.int i0), .val (.int i1), .val (.int i2), .val (.int i3), .val (.int i4), .val (.int (3 : Int32)), .val (.long ka), .second, .val (.long kb), .second, .val (.long kc), .second, .val (.long kd), .second, .val (.ref b), .val (.long sm), .second, .val (.ref o)] [(.ref o)])) rfl (by rw [hml]; rfl) (Steps.refl _) (argsL := []) (rest := []) (lenOf pd_6 rfl) rfl (by show 2 * 0 + _ ≤ _; exact Nat.le_of_eq rfl) (hb hby at_127) (fun _ _ => ⟨rfl, rfl, (Nat.le_of_ble_eq_true rfl), (Nat.le_of_ble_eq_true rfl)⟩)
    dsimp only [Pt.U, Pt.locs, Pt.cells, Pt.slots] at X17 l17 y17 z17 st17 hQ17
    subst l17 y17 z17
    obtain ⟨rfl, N17q, e17⟩ := hQ17
    have Nf := Fr.app Nf N17q
    refine own_go (fun tQ kQ => st17.trans kQ) ?_
    show own_End p e below _ (T17.setTop (mkF m 130 #[.val (.int i0), .val (.int i1), .val (.int i2), .val (.int i3), .val (.int i4), .val (.int (3 : Int32)), .val (.long ka), .second, .val (.long kb), .second, .val (.long kc), .second, .val (.long kd), .second, .val (.ref b), .val (.long sm), .second, .val (.ref o)] [(.double (own_acc (own_k ka kb kc kd) 3))]))
    have hQ := (own_acc_Q (own_k ka kb kc kd) (own_k_ok hka hkb hkc hkd) 3 (by decide))
    have hQ2 : own_Q (own_tot (own_k ka kb kc kd) 3) (FP.ddiv (FP.l2d sm) (4616189618054758400 : UInt64)) := by rw [← hsm]; exact own_Q_div (by have := hQ.2; omega)
    refine own_go (fun tQ kQ => XS.lload X17.here hx rfl (hb hby at_130) rfl kQ) ?_
    show own_End p e below _ (T17.setTop (mkF m 132 #[.val (.int i0), .val (.int i1), .val (.int i2), .val (.int i3), .val (.int i4), .val (.int (3 : Int32)), .val (.long ka), .second, .val (.long kb), .second, .val (.long kc), .second, .val (.long kd), .second, .val (.ref b), .val (.long sm), .second, .val (.ref o)] [(.long sm), (.double (own_acc (own_k ka kb kc kd) 3))]))
    refine own_go (fun tQ kQ => XS.l2dS X17.here hx rfl (hb hby at_132) rfl rfl kQ) ?_
    show own_End p e below _ (T17.setTop (mkF m 133 #[.val (.int i0), .val (.int i1), .val (.int i2), .val (.int i3), .val (.int i4), .val (.int (3 : Int32)), .val (.long ka), .second, .val (.long kb), .second, .val (.long kc), .second, .val (.long kd), .second, .val (.ref b), .val (.long sm), .second, .val (.ref o)] [(.double (FP.l2d sm)), (.double (own_acc (own_k ka kb kc kd) 3))]))
    refine own_go (fun tQ kQ => X17.ldc2DoubleC hx hown (mvT hZ (hw _ (List.mem_of_getElem? (i := 33) rfl))) (g := (mkF m 133 #[.val (.int i0), .val (.int i1), .val (.int i2), .val (.int i3), .val (.int i4), .val (.int (3 : Int32)), .val (.long ka), .second, .val (.long kb), .second, .val (.long kc), .second, .val (.long kd), .second, .val (.ref b), .val (.long sm), .second, .val (.ref o)] [(.double (FP.l2d sm)), (.double (own_acc (own_k ka kb kc kd) 3))])) rfl (hb hby at_133) _ kQ) ?_
    show own_End p e below _ (T17.setTop (mkF m 136 #[.val (.int i0), .val (.int i1), .val (.int i2), .val (.int i3), .val (.int i4), .val (.int (3 : Int32)), .val (.long ka), .second, .val (.long kb), .second, .val (.long kc), .second, .val (.long kd), .second, .val (.ref b), .val (.long sm), .second, .val (.ref o)] [(.double (4616189618054758400 : UInt64)), (.double (FP.l2d sm)), (.double (own_acc (own_k ka kb kc kd) 3))]))
    refine own_go (fun tQ kQ => XS.ddivS X17.here hx rfl (hb hby at_136) rfl (own_Q_nn hQ2) rfl kQ) ?_
    show own_End p e below _ (T17.setTop (mkF m 137 #[.val (.int i0), .val (.int i1), .val (.int i2), .val (.int i3), .val (.int i4), .val (.int (3 : Int32)), .val (.long ka), .second, .val (.long kb), .second, .val (.long kc), .second, .val (.long kd), .second, .val (.ref b), .val (.long sm), .second, .val (.ref o)] [(.double (FP.ddiv (FP.l2d sm) (4616189618054758400 : UInt64))), (.double (own_acc (own_k ka kb kc kd) 3))]))
    refine own_go (fun tQ kQ => XS.dcmpS X17.here hx rfl (hb hby at_137) rfl rfl kQ) ?_
    show own_End p e below _ (T17.setTop (mkF m 138 #[.val (.int i0), .val (.int i1), .val (.int i2), .val (.int i3), .val (.int i4), .val (.int (3 : Int32)), .val (.long ka), .second, .val (.long kb), .second, .val (.long kc), .second, .val (.long kd), .second, .val (.ref b), .val (.long sm), .second, .val (.ref o)] [(.int (cmpValue (FP.dcmp (own_acc (own_k ka kb kc kd) 3) (FP.ddiv (FP.l2d sm) (4616189618054758400 : UInt64))) .l))]))
    refine own_go (fun tQ kQ => XS.ifNo X17.here hx rfl (hb hby at_138) rfl ((if0 _ _).trans (teq (own_Q_cmp hQ.1 hQ2 .l)).2) kQ) ?_
    show own_End p e below _ (T17.setTop (mkF m 141 #[.val (.int i0), .val (.int i1), .val (.int i2), .val (.int i3), .val (.int i4), .val (.int (3 : Int32)), .val (.long ka), .second, .val (.long kb), .second, .val (.long kc), .second, .val (.long kd), .second, .val (.ref b), .val (.long sm), .second, .val (.ref o)] []))
    refine own_go (fun tQ kQ => XS.iconst X17.here hx rfl (hb hby at_141) kQ) ?_
    show own_End p e below _ (T17.setTop (mkF m 142 #[.val (.int i0), .val (.int i1), .val (.int i2), .val (.int i3), .val (.int i4), .val (.int (3 : Int32)), .val (.long ka), .second, .val (.long kb), .second, .val (.long kc), .second, .val (.long kd), .second, .val (.ref b), .val (.long sm), .second, .val (.ref o)] [(.int (1 : Int32))]))
    refine own_go (fun tQ kQ => XS.goto X17.here hx rfl (pc0 := 142) (pc' := 146) rfl (hb hby at_142) (by decide) (by decide) kQ) ?_
    show own_End p e below _ (T17.setTop (mkF m 146 #[.val (.int i0), .val (.int i1), .val (.int i2), .val (.int i3), .val (.int i4), .val (.int (3 : Int32)), .val (.long ka), .second, .val (.long kb), .second, .val (.long kc), .second, .val (.long kd), .second, .val (.ref b), .val (.long sm), .second, .val (.ref o)] [(.int (1 : Int32))]))
    obtain ⟨fs, hr, hrun, hended, hW, hsame⟩ := X17.leave (v := some (.int (1 : Int32))) (fun h => by rw [Bd.returns] at h; cases h)
    refine ⟨_, _, (retN X17 hx (t := .boolean) Bd.returns (by simp) (hb hby at_146) hr), hrun, hended, _, _, rfl, ?_, ⟨_, rfl⟩, hW, hsame.mono (by decide) (by decide)⟩
    show Q0 Z i0 i1 i2 i3 i4 h0 n0 _ T17.heap _
    rw [e17]
    exact ⟨rfl, Nf⟩
  ·
    show own_End p e below _ (T1.setTop (mkF m 59 #[.val (.int i0), .val (.int i1), .val (.int i2), .val (.int i3), .val (.int i4), .val (.int (4 : Int32)), .val (.long ka), .second, .val (.long kb), .second, .val (.long kc), .second, .val (.long kd), .second, .val (.ref b), .val (.long (0 : Int64)), .second, .unset] []))
    refine own_go (fun tQ kQ => XS.iload X1.here hx rfl (hb hby at_59) rfl kQ) ?_
    show own_End p e below _ (T1.setTop (mkF m 61 #[.val (.int i0), .val (.int i1), .val (.int i2), .val (.int i3), .val (.int i4), .val (.int (4 : Int32)), .val (.long ka), .second, .val (.long kb), .second, .val (.long kc), .second, .val (.long kd), .second, .val (.ref b), .val (.long (0 : Int64)), .second, .unset] [(.int (4 : Int32))]))
    refine own_go (fun tQ kQ => XS.ifNo X1.here hx rfl (hb hby at_61) rfl ((if0 _ _).trans (tlt (by decide)).2.2.2) kQ) ?_
    show own_End p e below _ (T1.setTop (mkF m 64 #[.val (.int i0), .val (.int i1), .val (.int i2), .val (.int i3), .val (.int i4), .val (.int (4 : Int32)), .val (.long ka), .second, .val (.long kb), .second, .val (.long kc), .second, .val (.long kd), .second, .val (.ref b), .val (.long (0 : Int64)), .second, .unset] []))
    refine own_go (fun tQ kQ => XS.lload X1.here hx rfl (hb hby at_64) rfl kQ) ?_
    show own_End p e below _ (T1.setTop (mkF m 66 #[.val (.int i0), .val (.int i1), .val (.int i2), .val (.int i3), .val (.int i4), .val (.int (4 : Int32)), .val (.long ka), .second, .val (.long kb), .second, .val (.long kc), .second, .val (.long kd), .second, .val (.ref b), .val (.long (0 : Int64)), .second, .unset] [(.long (0 : Int64))]))
    refine own_go (fun tQ kQ => XS.lload X1.here hx rfl (hb hby at_66) rfl kQ) ?_
    show own_End p e below _ (T1.setTop (mkF m 68 #[.val (.int i0), .val (.int i1), .val (.int i2), .val (.int i3), .val (.int i4), .val (.int (4 : Int32)), .val (.long ka), .second, .val (.long kb), .second, .val (.long kc), .second, .val (.long kd), .second, .val (.ref b), .val (.long (0 : Int64)), .second, .unset] [(.long ka), (.long (0 : Int64))]))
    refine own_go (fun tQ kQ => XS.ladd X1.here hx rfl (hb hby at_68) rfl kQ) ?_
    show own_End p e below _ (T1.setTop (mkF m 69 #[.val (.int i0), .val (.int i1), .val (.int i2), .val (.int i3), .val (.int i4), .val (.int (4 : Int32)), .val (.long ka), .second, .val (.long kb), .second, .val (.long kc), .second, .val (.long kd), .second, .val (.ref b), .val (.long (0 : Int64)), .second, .unset] [(.long ((0 : Int64) + ka))]))
    refine own_go (fun tQ kQ => XS.lstore X1.here hx rfl (hb hby at_69) rfl (l' := #[.val (.int i0), .val (.int i1), .val (.int i2), .val (.int i3), .val (.int i4), .val (.int (4 : Int32)), .val (.long ka), .second, .val (.long kb), .second, .val (.long kc), .second, .val (.long kd), .second, .val (.ref b), .val (.long ((0 : Int64) + ka)), .second, .unset]) rfl kQ) ?_
    show own_End p e below _ (T1.setTop (mkF m 71 #[.val (.int i0), .val (.int i1), .val (.int i2), .val (.int i3), .val (.int i4), .val (.int (4 : Int32)), .val (.long ka), .second, .val (.long kb), .second, .val (.long kc), .second, .val (.long kd), .second, .val (.ref b), .val (.long ((0 : Int64) + ka)), .second, .unset] []))
    refine own_go (fun tQ kQ => XS.iload X1.here hx rfl (hb hby at_71) rfl kQ) ?_
    show own_End p e below _ (T1.setTop (mkF m 73 #[.val (.int i0), .val (.int i1), .val (.int i2), .val (.int i3), .val (.int i4), .val (.int (4 : Int32)), .val (.long ka), .second, .val (.long kb), .second, .val (.long kc), .second, .val (.long kd), .second, .val (.ref b), .val (.long ((0 : Int64) + ka)), .second, .unset] [(.int (4 : Int32))]))
    refine own_go (fun tQ kQ => XS.iconst X1.here hx rfl (hb hby at_73) kQ) ?_
    show own_End p e below _ (T1.setTop (mkF m 74 #[.val (.int i0), .val (.int i1), .val (.int i2), .val (.int i3), .val (.int i4), .val (.int (4 : Int32)), .val (.long ka), .second, .val (.long kb), .second, .val (.long kc), .second, .val (.long kd), .second, .val (.ref b), .val (.long ((0 : Int64) + ka)), .second, .unset] [(.int (1 : Int32)), (.int (4 : Int32))]))
    refine own_go (fun tQ kQ => XS.icmpNo X1.here hx rfl (hb hby at_74) rfl (tlt (by decide)).2.2.2 kQ) ?_
    show own_End p e below _ (T1.setTop (mkF m 77 #[.val (.int i0), .val (.int i1), .val (.int i2), .val (.int i3), .val (.int i4), .val (.int (4 : Int32)), .val (.long ka), .second, .val (.long kb), .second, .val (.long kc), .second, .val (.long kd), .second, .val (.ref b), .val (.long ((0 : Int64) + ka)), .second, .unset] []))
    refine own_go (fun tQ kQ => XS.lload X1.here hx rfl (hb hby at_77) rfl kQ) ?_
    show own_End p e below _ (T1.setTop (mkF m 79 #[.val (.int i0), .val (.int i1), .val (.int i2), .val (.int i3), .val (.int i4), .val (.int (4 : Int32)), .val (.long ka), .second, .val (.long kb), .second, .val (.long kc), .second, .val (.long kd), .second, .val (.ref b), .val (.long ((0 : Int64) + ka)), .second, .unset] [(.long ((0 : Int64) + ka))]))
    refine own_go (fun tQ kQ => XS.lload X1.here hx rfl (hb hby at_79) rfl kQ) ?_
    show own_End p e below _ (T1.setTop (mkF m 81 #[.val (.int i0), .val (.int i1), .val (.int i2), .val (.int i3), .val (.int i4), .val (.int (4 : Int32)), .val (.long ka), .second, .val (.long kb), .second, .val (.long kc), .second, .val (.long kd), .second, .val (.ref b), .val (.long ((0 : Int64) + ka)), .second, .unset] [(.long kb), (.long ((0 : Int64) + ka))]))
    refine own_go (fun tQ kQ => XS.ladd X1.here hx rfl (hb hby at_81) rfl kQ) ?_
    show own_End p e below _ (T1.setTop (mkF m 82 #[.val (.int i0), .val (.int i1), .val (.int i2), .val (.int i3), .val (.int i4), .val (.int (4 : Int32)), .val (.long ka), .second, .val (.long kb), .second, .val (.long kc), .second, .val (.long kd), .second, .val (.ref b), .val (.long ((0 : Int64) + ka)), .second, .unset] [(.long (((0 : Int64) + ka) + kb))]))
    refine own_go (fun tQ kQ => XS.lstore X1.here hx rfl (hb hby at_82) rfl (l' := #[.val (.int i0), .val (.int i1), .val (.int i2), .val (.int i3), .val (.int i4), .val (.int (4 : Int32)), .val (.long ka), .second, .val (.long kb), .second, .val (.long kc), .second, .val (.long kd), .second, .val (.ref b), .val (.long (((0 : Int64) + ka) + kb)), .second, .unset]) rfl kQ) ?_
    show own_End p e below _ (T1.setTop (mkF m 84 #[.val (.int i0), .val (.int i1), .val (.int i2), .val (.int i3), .val (.int i4), .val (.int (4 : Int32)), .val (.long ka), .second, .val (.long kb), .second, .val (.long kc), .second, .val (.long kd), .second, .val (.ref b), .val (.long (((0 : Int64) + ka) + kb)), .second, .unset] []))
    refine own_go (fun tQ kQ => XS.iload X1.here hx rfl (hb hby at_84) rfl kQ) ?_
    show own_End p e below _ (T1.setTop (mkF m 86 #[.val (.int i0), .val (.int i1), .val (.int i2), .val (.int i3), .val (.int i4), .val (.int (4 : Int32)), .val (.long ka), .second, .val (.long kb), .second, .val (.long kc), .second, .val (.long kd), .second, .val (.ref b), .val (.long (((0 : Int64) + ka) + kb)), .second, .unset] [(.int (4 : Int32))]))
    refine own_go (fun tQ kQ => XS.iconst X1.here hx rfl (hb hby at_86) kQ) ?_
    show own_End p e below _ (T1.setTop (mkF m 87 #[.val (.int i0), .val (.int i1), .val (.int i2), .val (.int i3), .val (.int i4), .val (.int (4 : Int32)), .val (.long ka), .second, .val (.long kb), .second, .val (.long kc), .second, .val (.long kd), .second, .val (.ref b), .val (.long (((0 : Int64) + ka) + kb)), .second, .unset] [(.int (2 : Int32)), (.int (4 : Int32))]))
    refine own_go (fun tQ kQ => XS.icmpNo X1.here hx rfl (hb hby at_87) rfl (tlt (by decide)).2.2.2 kQ) ?_
    show own_End p e below _ (T1.setTop (mkF m 90 #[.val (.int i0), .val (.int i1), .val (.int i2), .val (.int i3), .val (.int i4), .val (.int (4 : Int32)), .val (.long ka), .second, .val (.long kb), .second, .val (.long kc), .second, .val (.long kd), .second, .val (.ref b), .val (.long (((0 : Int64) + ka) + kb)), .second, .unset] []))
    refine own_go (fun tQ kQ => XS.lload X1.here hx rfl (hb hby at_90) rfl kQ) ?_
    show own_End p e below _ (T1.setTop (mkF m 92 #[.val (.int i0), .val (.int i1), .val (.int i2), .val (.int i3), .val (.int i4), .val (.int (4 : Int32)), .val (.long ka), .second, .val (.long kb), .second, .val (.long kc), .second, .val (.long kd), .second, .val (.ref b), .val (.long (((0 : Int64) + ka) + kb)), .second, .unset] [(.long (((0 : Int64) + ka) + kb))]))
    refine own_go (fun tQ kQ => XS.lload X1.here hx rfl (hb hby at_92) rfl kQ) ?_
    show own_End p e below _ (T1.setTop (mkF m 94 #[.val (.int i0), .val (.int i1), .val (.int i2), .val (.int i3), .val (.int i4), .val (.int (4 : Int32)), .val (.long ka), .second, .val (.long kb), .second, .val (.long kc), .second, .val (.long kd), .second, .val (.ref b), .val (.long (((0 : Int64) + ka) + kb)), .second, .unset] [(.long kc), (.long (((0 : Int64) + ka) + kb))]))
    refine own_go (fun tQ kQ => XS.ladd X1.here hx rfl (hb hby at_94) rfl kQ) ?_
    show own_End p e below _ (T1.setTop (mkF m 95 #[.val (.int i0), .val (.int i1), .val (.int i2), .val (.int i3), .val (.int i4), .val (.int (4 : Int32)), .val (.long ka), .second, .val (.long kb), .second, .val (.long kc), .second, .val (.long kd), .second, .val (.ref b), .val (.long (((0 : Int64) + ka) + kb)), .second, .unset] [(.long ((((0 : Int64) + ka) + kb) + kc))]))
    refine own_go (fun tQ kQ => XS.lstore X1.here hx rfl (hb hby at_95) rfl (l' := #[.val (.int i0), .val (.int i1), .val (.int i2), .val (.int i3), .val (.int i4), .val (.int (4 : Int32)), .val (.long ka), .second, .val (.long kb), .second, .val (.long kc), .second, .val (.long kd), .second, .val (.ref b), .val (.long ((((0 : Int64) + ka) + kb) + kc)), .second, .unset]) rfl kQ) ?_
    show own_End p e below _ (T1.setTop (mkF m 97 #[.val (.int i0), .val (.int i1), .val (.int i2), .val (.int i3), .val (.int i4), .val (.int (4 : Int32)), .val (.long ka), .second, .val (.long kb), .second, .val (.long kc), .second, .val (.long kd), .second, .val (.ref b), .val (.long ((((0 : Int64) + ka) + kb) + kc)), .second, .unset] []))
    refine own_go (fun tQ kQ => XS.iload X1.here hx rfl (hb hby at_97) rfl kQ) ?_
    show own_End p e below _ (T1.setTop (mkF m 99 #[.val (.int i0), .val (.int i1), .val (.int i2), .val (.int i3), .val (.int i4), .val (.int (4 : Int32)), .val (.long ka), .second, .val (.long kb), .second, .val (.long kc), .second, .val (.long kd), .second, .val (.ref b), .val (.long ((((0 : Int64) + ka) + kb) + kc)), .second, .unset] [(.int (4 : Int32))]))
    refine own_go (fun tQ kQ => XS.iconst X1.here hx rfl (hb hby at_99) kQ) ?_
    show own_End p e below _ (T1.setTop (mkF m 100 #[.val (.int i0), .val (.int i1), .val (.int i2), .val (.int i3), .val (.int i4), .val (.int (4 : Int32)), .val (.long ka), .second, .val (.long kb), .second, .val (.long kc), .second, .val (.long kd), .second, .val (.ref b), .val (.long ((((0 : Int64) + ka) + kb) + kc)), .second, .unset] [(.int (3 : Int32)), (.int (4 : Int32))]))
    refine own_go (fun tQ kQ => XS.icmpNo X1.here hx rfl (hb hby at_100) rfl (tlt (by decide)).2.2.2 kQ) ?_
    show own_End p e below _ (T1.setTop (mkF m 103 #[.val (.int i0), .val (.int i1), .val (.int i2), .val (.int i3), .val (.int i4), .val (.int (4 : Int32)), .val (.long ka), .second, .val (.long kb), .second, .val (.long kc), .second, .val (.long kd), .second, .val (.ref b), .val (.long ((((0 : Int64) + ka) + kb) + kc)), .second, .unset] []))
    refine own_go (fun tQ kQ => XS.lload X1.here hx rfl (hb hby at_103) rfl kQ) ?_
    show own_End p e below _ (T1.setTop (mkF m 105 #[.val (.int i0), .val (.int i1), .val (.int i2), .val (.int i3), .val (.int i4), .val (.int (4 : Int32)), .val (.long ka), .second, .val (.long kb), .second, .val (.long kc), .second, .val (.long kd), .second, .val (.ref b), .val (.long ((((0 : Int64) + ka) + kb) + kc)), .second, .unset] [(.long ((((0 : Int64) + ka) + kb) + kc))]))
    refine own_go (fun tQ kQ => XS.lload X1.here hx rfl (hb hby at_105) rfl kQ) ?_
    show own_End p e below _ (T1.setTop (mkF m 107 #[.val (.int i0), .val (.int i1), .val (.int i2), .val (.int i3), .val (.int i4), .val (.int (4 : Int32)), .val (.long ka), .second, .val (.long kb), .second, .val (.long kc), .second, .val (.long kd), .second, .val (.ref b), .val (.long ((((0 : Int64) + ka) + kb) + kc)), .second, .unset] [(.long kd), (.long ((((0 : Int64) + ka) + kb) + kc))]))
    refine own_go (fun tQ kQ => XS.ladd X1.here hx rfl (hb hby at_107) rfl kQ) ?_
    show own_End p e below _ (T1.setTop (mkF m 108 #[.val (.int i0), .val (.int i1), .val (.int i2), .val (.int i3), .val (.int i4), .val (.int (4 : Int32)), .val (.long ka), .second, .val (.long kb), .second, .val (.long kc), .second, .val (.long kd), .second, .val (.ref b), .val (.long ((((0 : Int64) + ka) + kb) + kc)), .second, .unset] [(.long (((((0 : Int64) + ka) + kb) + kc) + kd))]))
    refine own_go (fun tQ kQ => XS.lstore X1.here hx rfl (hb hby at_108) rfl (l' := #[.val (.int i0), .val (.int i1), .val (.int i2), .val (.int i3), .val (.int i4), .val (.int (4 : Int32)), .val (.long ka), .second, .val (.long kb), .second, .val (.long kc), .second, .val (.long kd), .second, .val (.ref b), .val (.long (((((0 : Int64) + ka) + kb) + kc) + kd)), .second, .unset]) rfl kQ) ?_
    show own_End p e below _ (T1.setTop (mkF m 110 #[.val (.int i0), .val (.int i1), .val (.int i2), .val (.int i3), .val (.int i4), .val (.int (4 : Int32)), .val (.long ka), .second, .val (.long kb), .second, .val (.long kc), .second, .val (.long kd), .second, .val (.ref b), .val (.long (((((0 : Int64) + ka) + kb) + kc) + kd)), .second, .unset] []))
    have hsm : ((((((0 : Int64) + ka) + kb) + kc) + kd)).toInt = own_tot (own_k ka kb kc kd) 4 := own_sum4 hka hkb hkc hkd
    generalize (((((0 : Int64) + ka) + kb) + kc) + kd) = sm at hsm ⊢
    show own_End p e below _ (T1.setTop (mkF m 110 #[.val (.int i0), .val (.int i1), .val (.int i2), .val (.int i3), .val (.int i4), .val (.int (4 : Int32)), .val (.long ka), .second, .val (.long kb), .second, .val (.long kc), .second, .val (.long kd), .second, .val (.ref b), .val (.long sm), .second, .unset] []))
    obtain ⟨T18, h18, X18, e18, E18, A18, D18, -, st18⟩ := newO X1 hx hZ hown (hw _ (List.mem_of_getElem? (i := 7) rfl)) (hw _ (List.mem_of_getElem? (i := 8) rfl)) (hw _ (List.mem_of_getElem? (i := 9) rfl)) rfl (g := (mkF m 110 #[.val (.int i0), .val (.int i1), .val (.int i2), .val (.int i3), .val (.int i4), .val (.int (4 : Int32)), .val (.long ka), .second, .val (.long kb), .second, .val (.long kc), .second, .val (.long kd), .second, .val (.ref b), .val (.long sm), .second, .unset] [])) rfl (hb hby at_110) (by decide) (by decide)
    obtain ⟨o, g18⟩ : ∃ z, z = T1.heap.size := ⟨_, rfl⟩
    rw [← g18] at A18 D18 st18
    have ne_b_o : b ≠ o := Nat.ne_of_lt (Nat.lt_of_lt_of_le V_b.lt (Nat.le_of_eq g18.symm))
    have g_o : n0 ≤ o := Nat.le_trans Zs (Nat.le_of_eq g18.symm)
    have sz_o : h0.size ≤ o := Nat.le_trans szr (Nat.le_of_eq g18.symm)
    have V_b := V_b.ext E18
    have Kp := Kp.ext E18
    have Zs := Nat.le_trans Zs E18.1
    have szr := Nat.le_trans szr E18.1
    have E_o := A18
    have F_makespanSeconds_o : Fld Z h18 o "com/example/tasks_to_slots/taskstoslots/model/PlanLayout$Totals" "makespanSeconds" "D" (.double (0 : UInt64)) := D18 (Or.inr (hw _ (List.mem_of_getElem? (i := 23) rfl))) (ty := .double) (by decide)
    have F_chargesUsd_o : Fld Z h18 o "com/example/tasks_to_slots/taskstoslots/model/PlanLayout$Totals" "chargesUsd" "[D" .null := D18 (Or.inr (hw _ (List.mem_of_getElem? (i := 25) rfl))) (ty := (.array .double)) (by decide)
    have F_vmByTask_o : Fld Z h18 o "com/example/tasks_to_slots/taskstoslots/model/PlanLayout$Totals" "vmByTask" "[I" .null := D18 (Or.inr (hw _ (List.mem_of_getElem? (i := 27) rfl))) (ty := (.array .int)) (by decide)
    refine own_go (fun tQ kQ => st18 tQ kQ) ?_
    show own_End p e below _ (T18.setTop (mkF m 113 #[.val (.int i0), .val (.int i1), .val (.int i2), .val (.int i3), .val (.int i4), .val (.int (4 : Int32)), .val (.long ka), .second, .val (.long kb), .second, .val (.long kc), .second, .val (.long kd), .second, .val (.ref b), .val (.long sm), .second, .unset] [(.ref o)]))
    refine own_go (fun tQ kQ => XS.dup X18.here hx rfl (hb hby at_113) rfl rfl kQ) ?_
    show own_End p e below _ (T18.setTop (mkF m 114 #[.val (.int i0), .val (.int i1), .val (.int i2), .val (.int i3), .val (.int i4), .val (.int (4 : Int32)), .val (.long ka), .second, .val (.long kb), .second, .val (.long kc), .second, .val (.long kd), .second, .val (.ref b), .val (.long sm), .second, .unset] [(.ref o), (.ref o)]))
    refine own_go (fun tQ kQ => XS.dconst0 X18.here hx rfl (hb hby at_114) rfl kQ) ?_
    show own_End p e below _ (T18.setTop (mkF m 115 #[.val (.int i0), .val (.int i1), .val (.int i2), .val (.int i3), .val (.int i4), .val (.int (4 : Int32)), .val (.long ka), .second, .val (.long kb), .second, .val (.long kc), .second, .val (.long kd), .second, .val (.ref b), .val (.long sm), .second, .unset] [(.double (0 : UInt64)), (.ref o), (.ref o)]))
    refine own_go (fun tQ kQ => XS.aload X18.here hx rfl (hb hby at_115) rfl rfl kQ) ?_
    show own_End p e below _ (T18.setTop (mkF m 117 #[.val (.int i0), .val (.int i1), .val (.int i2), .val (.int i3), .val (.int i4), .val (.int (4 : Int32)), .val (.long ka), .second, .val (.long kb), .second, .val (.long kc), .second, .val (.long kd), .second, .val (.ref b), .val (.long sm), .second, .unset] [(.ref b), (.double (0 : UInt64)), (.ref o), (.ref o)]))
    refine own_go (fun tQ kQ => XS.iconst X18.here hx rfl (hb hby at_117) kQ) ?_
    show own_End p e below _ (T18.setTop (mkF m 118 #[.val (.int i0), .val (.int i1), .val (.int i2), .val (.int i3), .val (.int i4), .val (.int (4 : Int32)), .val (.long ka), .second, .val (.long kb), .second, .val (.long kc), .second, .val (.long kd), .second, .val (.ref b), .val (.long sm), .second, .unset] [(.int (0 : Int32)), (.ref b), (.double (0 : UInt64)), (.ref o), (.ref o)]))
    obtain ⟨T19, h19, k19, X19, e19, E19, A19, st19⟩ := newP X18 hx hZ (hw _ (List.mem_of_getElem? (i := 10) rfl)) e18 (g := (mkF m 118 #[.val (.int i0), .val (.int i1), .val (.int i2), .val (.int i3), .val (.int i4), .val (.int (4 : Int32)), .val (.long ka), .second, .val (.long kb), .second, .val (.long kc), .second, .val (.long kd), .second, .val (.ref b), .val (.long sm), .second, .unset] [(.int (0 : Int32)), (.ref b), (.double (0 : UInt64)), (.ref o), (.ref o)])) rfl (hb hby at_118) rfl (by decide) (cap := 0) (by decide) (by decide) (by decide) (by decide)
    obtain ⟨vb, g19⟩ : ∃ z, z = h18.size := ⟨_, rfl⟩
    rw [← g19] at A19 st19
    have ne_b_vb : b ≠ vb := Nat.ne_of_lt (Nat.lt_of_lt_of_le V_b.lt (Nat.le_of_eq g19.symm))
    have ne_o_vb : o ≠ vb := Nat.ne_of_lt (Nat.lt_of_lt_of_le E_o.lt (Nat.le_of_eq g19.symm))
    have g_vb : n0 ≤ vb := Nat.le_trans Zs (Nat.le_of_eq g19.symm)
    have sz_vb : h0.size ≤ vb := Nat.le_trans szr (Nat.le_of_eq g19.symm)
    have V_b := V_b.ext E19
    have E_o := E_o.ext E19
    have F_makespanSeconds_o := F_makespanSeconds_o.ext E19
    have F_chargesUsd_o := F_chargesUsd_o.ext E19
    have F_vmByTask_o := F_vmByTask_o.ext E19
    have Kp := Kp.ext E19
    have Zs := Nat.le_trans Zs E19.1
    have szr := Nat.le_trans szr E19.1
    have V_vb : own_Ar Z h19 vb .int (0 : Int32) (fun _ => (.int (0 : Int32))) := own_Ar.new A19 (by decide)
    refine own_go (fun tQ kQ => st19 tQ kQ) ?_
    show own_End p e below _ (T19.setTop (mkF m 120 #[.val (.int i0), .val (.int i1), .val (.int i2), .val (.int i3), .val (.int i4), .val (.int (4 : Int32)), .val (.long ka), .second, .val (.long kb), .second, .val (.long kc), .second, .val (.long kd), .second, .val (.ref b), .val (.long sm), .second, .unset] [(.ref vb), (.ref b), (.double (0 : UInt64)), (.ref o), (.ref o)]))
    obtain ⟨_, _, ⟨T20, L20, k20, n20⟩, -, X20, ⟨Lc20, hQ20, l20, y20, z20⟩, st20⟩ := X19.specialBack hx (y := (⟨"com/example/tasks_to_slots/taskstoslots/model/PlanLayout$Totals", "<init>", "(D[D[I)V"⟩ : MethodName)) rfl hown (mvT hZ (hw _ (List.mem_of_getElem? (i := 11) rfl))) (mvT hZ (hw _ (List.mem_of_getElem? (i := 12) rfl))) (mvT hZ (hw _ (List.mem_of_getElem? (i := 13) rfl))) (by decide) (backOf (W := 1) (rm2 l Z a0 hw [] o (0 : UInt64) b vb h19 n0 Zs E_o F_makespanSeconds_o F_chargesUsd_o F_vmByTask_o g_o) hZ (hw _ (List.mem_of_getElem? (i := 13) rfl)) (hw _ (List.mem_of_getElem? (i := 9) rfl)) (by decide) (by decide)) (g := (mkF m 120 #[.val (.int i0), .val (.int i1), .val (.int i2), .val (.int i3), .val (.int i4), .val (.int (4 : Int32)), .val (.long ka), .second, .val (.long kb), .second, .val (.long kc), .second, .val (.long kd), .second, .val (.ref b), .val (.long sm), .second, .unset] [(.ref vb), (.ref b), (.double (0 : UInt64)), (.ref o), (.ref o)])) rfl (by rw [hml]; rfl) (Steps.refl _) (a := o) (argsL := [(.double (0 : UInt64)), (.ref b), (.ref vb)]) (rest := [(.ref o)]) (lenOf pd_5 rfl) rfl (by show 2 * 0 + _ ≤ _; exact Nat.le_of_eq rfl) (hb hby at_120) (fun _ _ => ⟨rfl, e19, (Nat.le_of_ble_eq_true rfl), (Nat.le_of_ble_eq_true rfl)⟩)
    dsimp only [Pt.U, Pt.locs, Pt.cells, Pt.slots] at X20 l20 y20 z20 st20 hQ20
    subst l20 y20 z20
    obtain ⟨rfl, N20q, K20, F_makespanSeconds_o, F_chargesUsd_o, F_vmByTask_o⟩ := hQ20
    have Nf := Fr.app Nf N20q
    have V_b := V_b.keep K20 (ninS ne_b_o nin0)
    have E_o := E_o.keep K20
    have V_vb := V_vb.keep K20 (ninS (Ne.symm ne_o_vb) nin0)
    have Kp := Kp.trans K20 (allS (Or.inr sz_o) all0)
    have Zs := Nat.le_trans Zs K20.1
    have szr := Nat.le_trans szr K20.1
    refine own_go (fun tQ kQ => st20.trans kQ) ?_
    show own_End p e below _ (T20.setTop (mkF m 123 #[.val (.int i0), .val (.int i1), .val (.int i2), .val (.int i3), .val (.int i4), .val (.int (4 : Int32)), .val (.long ka), .second, .val (.long kb), .second, .val (.long kc), .second, .val (.long kd), .second, .val (.ref b), .val (.long sm), .second, .unset] [(.ref o)]))
    refine own_go (fun tQ kQ => XS.astore X20.here hx rfl (hb hby at_123) rfl rfl (l' := #[.val (.int i0), .val (.int i1), .val (.int i2), .val (.int i3), .val (.int i4), .val (.int (4 : Int32)), .val (.long ka), .second, .val (.long kb), .second, .val (.long kc), .second, .val (.long kd), .second, .val (.ref b), .val (.long sm), .second, .val (.ref o)]) rfl kQ) ?_
    show own_End p e below _ (T20.setTop (mkF m 125 #[.val (.int i0), .val (.int i1), .val (.int i2), .val (.int i3), .val (.int i4), .val (.int (4 : Int32)), .val (.long ka), .second, .val (.long kb), .second, .val (.long kc), .second, .val (.long kd), .second, .val (.ref b), .val (.long sm), .second, .val (.ref o)] []))
    refine own_go (fun tQ kQ => XS.aload X20.here hx rfl (hb hby at_125) rfl rfl kQ) ?_
    show own_End p e below _ (T20.setTop (mkF m 127 #[.val (.int i0), .val (.int i1), .val (.int i2), .val (.int i3), .val (.int i4), .val (.int (4 : Int32)), .val (.long ka), .second, .val (.long kb), .second, .val (.long kc), .second, .val (.long kd), .second, .val (.ref b), .val (.long sm), .second, .val (.ref o)] [(.ref o)]))
    obtain ⟨cq21, kq21, q21a, q21b, q21c⟩ := isOf hZ rfl E_o
    obtain ⟨_, _, ⟨T21, L21, k21, n21⟩, -, X21, ⟨Lc21, hQ21, l21, y21, z21⟩, st21⟩ := X20.virtualBack hx (y := (⟨"com/example/tasks_to_slots/taskstoslots/model/PlanLayout$Totals", "costUsd", "()D"⟩ : MethodName)) (z := (⟨"com/example/tasks_to_slots/taskstoslots/model/PlanLayout$Totals", "costUsd", "()D"⟩ : MethodName)) hown (mvT hZ (hw _ (List.mem_of_getElem? (i := 28) rfl))) (mvT hZ (hw _ (List.mem_of_getElem? (i := 29) rfl))) (notFace_of_selects (args := #[]) (mvT hZ (hw _ (List.mem_of_getElem? (i := 31) rfl)))) (mvT hZ (hw _ (List.mem_of_getElem? (i := 31) rfl))) (mvT hZ (hw _ (List.mem_of_getElem? (i := 30) rfl))) (by decide) (backOf (W := 0) (rm3 l Z a0 hw [] o b (4 : Int32) 4 (own_k ka kb kc kd) T20.heap n0 Zs F_chargesUsd_o V_b (by decide) (by decide) (own_k_ok hka hkb hkc hkd)) hZ (hw _ (List.mem_of_getElem? (i := 32) rfl)) (hw _ (List.mem_of_getElem? (i := 9) rfl)) (by decide) (by decide)) q21a q21c (g := (mkF m 127 #[.val (.int i0), .val (.int i1), .val (.int i2), .val (.int i3), .val (.int i4), .val (.int (4 : Int32)), .val (.long ka), .second, .val (.long kb), .second, .val (.long kc), .second, .val (.long kd), .second, .val (.ref b), .val (.long sm), .second, .val (.ref o)] [(.ref o)])) rfl (by rw [hml]; rfl) (Steps.refl _) (argsL := []) (rest := []) (lenOf pd_6 rfl) rfl (by show 2 * 0 + _ ≤ _; exact Nat.le_of_eq rfl) (hb hby at_127) (fun _ _ => ⟨rfl, rfl, (Nat.le_of_ble_eq_true rfl), (Nat.le_of_ble_eq_true rfl)⟩)
    dsimp only [Pt.U, Pt.locs, Pt.cells, Pt.slots] at X21 l21 y21 z21 st21 hQ21
    subst l21 y21 z21
    obtain ⟨rfl, N21q, e21⟩ := hQ21
    have Nf := Fr.app Nf N21q
    refine own_go (fun tQ kQ => st21.trans kQ) ?_
    show own_End p e below _ (T21.setTop (mkF m 130 #[.val (.int i0), .val (.int i1), .val (.int i2), .val (.int i3), .val (.int i4), .val (.int (4 : Int32)), .val (.long ka), .second, .val (.long kb), .second, .val (.long kc), .second, .val (.long kd), .second, .val (.ref b), .val (.long sm), .second, .val (.ref o)] [(.double (own_acc (own_k ka kb kc kd) 4))]))
    have hQ := (own_acc_Q (own_k ka kb kc kd) (own_k_ok hka hkb hkc hkd) 4 (by decide))
    have hQ2 : own_Q (own_tot (own_k ka kb kc kd) 4) (FP.ddiv (FP.l2d sm) (4616189618054758400 : UInt64)) := by rw [← hsm]; exact own_Q_div (by have := hQ.2; omega)
    refine own_go (fun tQ kQ => XS.lload X21.here hx rfl (hb hby at_130) rfl kQ) ?_
    show own_End p e below _ (T21.setTop (mkF m 132 #[.val (.int i0), .val (.int i1), .val (.int i2), .val (.int i3), .val (.int i4), .val (.int (4 : Int32)), .val (.long ka), .second, .val (.long kb), .second, .val (.long kc), .second, .val (.long kd), .second, .val (.ref b), .val (.long sm), .second, .val (.ref o)] [(.long sm), (.double (own_acc (own_k ka kb kc kd) 4))]))
    refine own_go (fun tQ kQ => XS.l2dS X21.here hx rfl (hb hby at_132) rfl rfl kQ) ?_
    show own_End p e below _ (T21.setTop (mkF m 133 #[.val (.int i0), .val (.int i1), .val (.int i2), .val (.int i3), .val (.int i4), .val (.int (4 : Int32)), .val (.long ka), .second, .val (.long kb), .second, .val (.long kc), .second, .val (.long kd), .second, .val (.ref b), .val (.long sm), .second, .val (.ref o)] [(.double (FP.l2d sm)), (.double (own_acc (own_k ka kb kc kd) 4))]))
    refine own_go (fun tQ kQ => X21.ldc2DoubleC hx hown (mvT hZ (hw _ (List.mem_of_getElem? (i := 33) rfl))) (g := (mkF m 133 #[.val (.int i0), .val (.int i1), .val (.int i2), .val (.int i3), .val (.int i4), .val (.int (4 : Int32)), .val (.long ka), .second, .val (.long kb), .second, .val (.long kc), .second, .val (.long kd), .second, .val (.ref b), .val (.long sm), .second, .val (.ref o)] [(.double (FP.l2d sm)), (.double (own_acc (own_k ka kb kc kd) 4))])) rfl (hb hby at_133) _ kQ) ?_
    show own_End p e below _ (T21.setTop (mkF m 136 #[.val (.int i0), .val (.int i1), .val (.int i2), .val (.int i3), .val (.int i4), .val (.int (4 : Int32)), .val (.long ka), .second, .val (.long kb), .second, .val (.long kc), .second, .val (.long kd), .second, .val (.ref b), .val (.long sm), .second, .val (.ref o)] [(.double (4616189618054758400 : UInt64)), (.double (FP.l2d sm)), (.double (own_acc (own_k ka kb kc kd) 4))]))
    refine own_go (fun tQ kQ => XS.ddivS X21.here hx rfl (hb hby at_136) rfl (own_Q_nn hQ2) rfl kQ) ?_
    show own_End p e below _ (T21.setTop (mkF m 137 #[.val (.int i0), .val (.int i1), .val (.int i2), .val (.int i3), .val (.int i4), .val (.int (4 : Int32)), .val (.long ka), .second, .val (.long kb), .second, .val (.long kc), .second, .val (.long kd), .second, .val (.ref b), .val (.long sm), .second, .val (.ref o)] [(.double (FP.ddiv (FP.l2d sm) (4616189618054758400 : UInt64))), (.double (own_acc (own_k ka kb kc kd) 4))]))
    refine own_go (fun tQ kQ => XS.dcmpS X21.here hx rfl (hb hby at_137) rfl rfl kQ) ?_
    show own_End p e below _ (T21.setTop (mkF m 138 #[.val (.int i0), .val (.int i1), .val (.int i2), .val (.int i3), .val (.int i4), .val (.int (4 : Int32)), .val (.long ka), .second, .val (.long kb), .second, .val (.long kc), .second, .val (.long kd), .second, .val (.ref b), .val (.long sm), .second, .val (.ref o)] [(.int (cmpValue (FP.dcmp (own_acc (own_k ka kb kc kd) 4) (FP.ddiv (FP.l2d sm) (4616189618054758400 : UInt64))) .l))]))
    refine own_go (fun tQ kQ => XS.ifNo X21.here hx rfl (hb hby at_138) rfl ((if0 _ _).trans (teq (own_Q_cmp hQ.1 hQ2 .l)).2) kQ) ?_
    show own_End p e below _ (T21.setTop (mkF m 141 #[.val (.int i0), .val (.int i1), .val (.int i2), .val (.int i3), .val (.int i4), .val (.int (4 : Int32)), .val (.long ka), .second, .val (.long kb), .second, .val (.long kc), .second, .val (.long kd), .second, .val (.ref b), .val (.long sm), .second, .val (.ref o)] []))
    refine own_go (fun tQ kQ => XS.iconst X21.here hx rfl (hb hby at_141) kQ) ?_
    show own_End p e below _ (T21.setTop (mkF m 142 #[.val (.int i0), .val (.int i1), .val (.int i2), .val (.int i3), .val (.int i4), .val (.int (4 : Int32)), .val (.long ka), .second, .val (.long kb), .second, .val (.long kc), .second, .val (.long kd), .second, .val (.ref b), .val (.long sm), .second, .val (.ref o)] [(.int (1 : Int32))]))
    refine own_go (fun tQ kQ => XS.goto X21.here hx rfl (pc0 := 142) (pc' := 146) rfl (hb hby at_142) (by decide) (by decide) kQ) ?_
    show own_End p e below _ (T21.setTop (mkF m 146 #[.val (.int i0), .val (.int i1), .val (.int i2), .val (.int i3), .val (.int i4), .val (.int (4 : Int32)), .val (.long ka), .second, .val (.long kb), .second, .val (.long kc), .second, .val (.long kd), .second, .val (.ref b), .val (.long sm), .second, .val (.ref o)] [(.int (1 : Int32))]))
    obtain ⟨fs, hr, hrun, hended, hW, hsame⟩ := X21.leave (v := some (.int (1 : Int32))) (fun h => by rw [Bd.returns] at h; cases h)
    refine ⟨_, _, (retN X21 hx (t := .boolean) Bd.returns (by simp) (hb hby at_146) hr), hrun, hended, _, _, rfl, ?_, ⟨_, rfl⟩, hW, hsame.mono (by decide) (by decide)⟩
    show Q0 Z i0 i1 i2 i3 i4 h0 n0 _ T21.heap _
    rw [e21]
    exact ⟨rfl, Nf⟩
set_option maxRecDepth 65536 in
set_option maxHeartbeats 40000000 in
theorem comes_1 {Post : Tables → Env → Array Value → State → Outcome → State → Prop} (hpost : ∀ tb e args s v u, (limb_1_1.after args s (.returned v) u = true ∧ limb_1_2.after args s (.returned v) u = true ∧ True) → FrameEnd s (.returned v) u (Jvm.fieldLocs frame_1_writes args s ++ Jvm.arrayLocs frame_1_arrays args s ++ Jvm.staticLocs frame_1_statics s) 16 128 → Post tb e args s (.returned v) u) :
    ArmFor flags0 classFile x code maxLocals ret World_1 tables_1 room_1 Calls_1 rest_1 Pre_1 Post := by
  intro l hfl _ _ p e ha hc hk s m args below hf hA hF happ hP
  obtain ⟨hcalls, hrest, hpre⟩ := hP
  obtain ⟨-, -, -, hnamed, -, -, -, hat⟩ := (Spec.applies_iff hf).mp happ
  obtain ⟨hg, hn⟩ := and_e (Cond.before_iff.mp (show (Jvm.Cond.and given_1 narrow_1).before args s = true from hpre))
  obtain ⟨h1, g0⟩ := and_e hg
  obtain ⟨k0, g1⟩ := and_e g0
  obtain ⟨k1, g2⟩ := and_e g1
  obtain ⟨k2, g3⟩ := and_e g2
  obtain ⟨k3, g4⟩ := and_e g3
  obtain ⟨w0, w1, w2, w3, w4, rfl⟩ : ∃ w0 w1 w2 w3 w4 : Value, args = #[w0, w1, w2, w3, w4] := by
    have hs : args.size = 5 := by simpa [Cond.value, given_1] using h1
    obtain ⟨L⟩ := args
    match L, hs with
    | [w0, w1, w2, w3, w4], _ => exact ⟨w0, w1, w2, w3, w4, rfl⟩
  have hw := fun d (hd : d ∈ tables_1) => atoms_spec (ws := Jvm.Cond.code x code maxLocals ret :: tables_1) hat d (List.mem_cons_of_mem _ hd)
  have hfit : Fit s := fun {y c} hc i hi => by
    obtain ⟨ha, rfl⟩ := Array.getElem?_eq_some_iff.mp hc
    have q := List.all_eq_true.mp ((Array.all_eq_true_iff_forall_mem.mp hF) _ (Array.getElem_mem ha)) i (List.mem_range.mpr hi)
    simpa [Array.getElem?_eq_getElem hi] using q
  obtain ⟨v0, e0⟩ := is_v k0
  obtain rfl : w0 = (.int v0) := Option.some.inj e0
  obtain ⟨v1, e1⟩ := is_v k1
  obtain rfl : w1 = (.int v1) := Option.some.inj e1
  obtain ⟨v2, e2⟩ := is_v k2
  obtain rfl : w2 = (.int v2) := Option.some.inj e2
  obtain ⟨v3, e3⟩ := is_v k3
  obtain rfl : w3 = (.int v3) := Option.some.inj e3
  obtain ⟨v4, e4⟩ := is_v g4
  obtain rfl : w4 = (.int v4) := Option.some.inj e4
  obtain ⟨n, o, h1, h2, h3, _, L, rfl, ⟨rfl, N⟩, hq⟩ := rm0 l s _ hw tables_1 v0 v1 v2 v3 v4 s.heap s.heap.size (Nat.le_refl _) p e ha hc hk s m _ below hf ((Spec.applies_iff_loose hf).mp happ).1 ⟨rfl, State.Warmed39.refl s, rfl⟩ trivial
  refine ⟨n, _, h1, h2, h3, hpost _ _ _ _ _ _ ⟨Cond.after_iff.mpr rfl, Cond.after_iff.mpr (eq_i res_at (Term.int_eval (1)) rfl), trivial⟩ ⟨hq.1, hq.2.1, (hq.2.2.sift fun y hy => Or.inr (N y hy)).mono (by decide) (by decide)⟩⟩
theorem main_1_1 : Claimed_1_1 := comes_1 fun _ _ _ _ _ _ h hF => ⟨h.1, hF⟩
theorem main_1_2 : Claimed_1_2 := comes_1 fun _ _ _ _ _ _ h hF => ⟨h.2.1, hF⟩
end Jvm.Pilot.@@N@@
namespace Jvm.Pilot.@@N@@
open Jvm Jvm.ClassFile Sem Op Lib Jvm.Free Jvm.Stand Jvm.Pilot.@@N@@.Jvm.D
/-! MADE BY PROGRAM (witnessworld.py) out of the Statement's table words and the real class files: 12 classes; the members and pool entries that the words name. The judged class is class 1, her method 1. -/
namespace start1
open Jvm.ClassFile
def u (s : String) : CpInfo := .utf8 (stringToUtf16 s)
/-- a pool by its gaps: so many unusable entries, then the entry; so many at the end -/
def gap : Nat → List CpInfo → List CpInfo
  | 0, r => r
  | n + 1, r => .unusable :: gap n r
def poolList (es : List (Nat × CpInfo)) (last : Nat) : List CpInfo := es.foldr (fun e r => gap e.1 (e.2 :: r)) (gap last [])
def pool (es : List (Nat × CpInfo)) (last : Nat) : Array CpInfo := ⟨poolList es last⟩
def fileOf (pool : Array CpInfo) (this : Nat) (attrs : Array Attribute := #[]) (ms : Array MethodInfo := #[]) (fl : Nat := 33) (sup : Nat := 0) (ifs : Array Nat := #[]) (fds : Array FieldInfo := #[]) : ClassFile where
  minorVersion := 0
  majorVersion := 65
  constantPool := pool
  accessFlags := fl
  thisClass := this
  superClass := sup
  interfaces := ifs
  fields := fds
  methods := ms
  attributes := attrs
def plain (name : String) (sup : Option ClassId) : Class where
  name := name
  kind := .ordinary
  loader := none
  accessFlags := 33
  super := sup
  interfaces := #[]
  cf := none
  fields := #[]
  methods := #[]
  instanceTypes := #[]
  staticTypes := #[]
  resolved := #[]
  callSites := []
  init := .initialized
  statics := none
  mirror := none

def pool0 : Array CpInfo := pool [(5, u "<init>"), (0, u "()V"), (1, .class_ 10), (1, u "java/lang/Object")] 113

def k0c0 : Code := { maxStack := 0, maxLocals := 1, code := object_method_1_code, exceptionTable := #[], attributes := #[] }
def k0m0 : Method := { name := "<init>", desc := "()V", sig := { parameters := [], returnType := none }, accessFlags := 1, code := some k0c0 }
/-- java/lang/Object -/
def k0 : Class := { plain "java/lang/Object" none with
  accessFlags := 33
  interfaces := #[]
  cf := some (fileOf pool0 8 #[] #[{ accessFlags := 1, nameIndex := 5, descriptorIndex := 6, attributes := #[] }] 33 0 #[] #[])
  fields := #[]
  methods := #[k0m0]
  instanceTypes := #[]
  staticTypes := #[]
  resolved := Array.replicate 124 none
  statics := none }

def pool1 : Array CpInfo := pool [(2, .class_ 4), (1, u "java/lang/Object"), (0, u "<init>"), (0, u "()V"), (0, .integer 2147483647), (0, .long 2147483647), (1, .methodref 11 12), (0, .class_ 13), (0, .nameAndType 14 15), (0, u "com/example/tasks_to_slots/taskstoslots/model/TotalsCostUsdPinLaw"), (0, u "charges"), (0, u "(IJJJJ)[D"), (0, .class_ 17), (0, u "com/example/tasks_to_slots/taskstoslots/model/PlanLayout$Totals"), (0, .methodref 16 19), (0, .nameAndType 5 20), (0, u "(D[D[I)V"), (0, .methodref 16 22), (0, .nameAndType 23 24), (0, u "costUsd"), (0, u "()D"), (0, .double 4616189618054758400), (3, u "law"), (0, u "(IIIII)Z")] 9

def k1m0 : Method := { name := "<init>", desc := "()V", sig := { parameters := [], returnType := none }, accessFlags := 2, code := none }
def k1c1 : Code := { maxStack := 9, maxLocals := 18, code := code, exceptionTable := #[], attributes := #[] }
def k1m1 : Method := { name := "law", desc := "(IIIII)Z", sig := { parameters := [.int, .int, .int, .int, .int], returnType := some .boolean }, accessFlags := 9, code := some k1c1 }
def k1c2 : Code := { maxStack := 7, maxLocals := 9, code := method_3_code, exceptionTable := #[], attributes := #[] }
def k1m2 : Method := { name := "charges", desc := "(IJJJJ)[D", sig := { parameters := [.int, .long, .long, .long, .long], returnType := some (.array .double) }, accessFlags := 10, code := some k1c2 }
/-- com/example/tasks_to_slots/taskstoslots/model/TotalsCostUsdPinLaw -/
def k1 : Class := { plain "com/example/tasks_to_slots/taskstoslots/model/TotalsCostUsdPinLaw" (some 0) with
  accessFlags := 49
  interfaces := #[]
  cf := some (fileOf pool1 11 #[] #[{ accessFlags := 2, nameIndex := 5, descriptorIndex := 6, attributes := #[] }, { accessFlags := 9, nameIndex := 29, descriptorIndex := 30, attributes := #[] }, { accessFlags := 10, nameIndex := 14, descriptorIndex := 15, attributes := #[] }] 49 2 #[] #[])
  fields := #[]
  methods := #[k1m0, k1m1, k1m2]
  instanceTypes := #[]
  staticTypes := #[]
  resolved := Array.replicate 40 none
  statics := none }

def pool2 : Array CpInfo := pool [(1, .methodref 2 3), (0, .class_ 4), (0, .nameAndType 5 6), (0, u "java/lang/Object"), (0, u "<init>"), (0, u "()V"), (0, .class_ 8), (0, u "java/lang/Record")] 13

def k2c0 : Code := { maxStack := 1, maxLocals := 1, code := jdk_30_method_1_code, exceptionTable := #[], attributes := #[] }
def k2m0 : Method := { name := "<init>", desc := "()V", sig := { parameters := [], returnType := none }, accessFlags := 4, code := some k2c0 }
/-- java/lang/Record -/
def k2 : Class := { plain "java/lang/Record" (some 0) with
  accessFlags := 1057
  interfaces := #[]
  cf := some (fileOf pool2 7 #[] #[{ accessFlags := 4, nameIndex := 5, descriptorIndex := 6, attributes := #[] }] 1057 2 #[] #[])
  fields := #[]
  methods := #[k2m0]
  instanceTypes := #[]
  staticTypes := #[]
  resolved := Array.replicate 22 none
  statics := none }

def pool3 : Array CpInfo := pool [(1, .methodref 2 3), (0, .class_ 4), (0, .nameAndType 5 6), (0, u "java/lang/Record"), (0, u "<init>"), (0, u "()V"), (0, .fieldref 8 9), (0, .class_ 10), (0, .nameAndType 11 12), (0, u "com/example/tasks_to_slots/taskstoslots/model/PlanLayout$Totals"), (0, u "makespanSeconds"), (0, u "D"), (0, .fieldref 8 14), (0, .nameAndType 15 16), (0, u "chargesUsd"), (0, u "[D"), (0, .fieldref 8 18), (0, .nameAndType 19 20), (0, u "vmByTask"), (0, u "[I"), (12, u "(D[D[I)V"), (3, u "costUsd"), (0, u "()D"), (10, .class_ 50), (0, u "com/example/tasks_to_slots/taskstoslots/model/PlanLayout")] 21

def k3c0 : Code := { maxStack := 3, maxLocals := 5, code := prog_59_method_1_code, exceptionTable := #[], attributes := #[] }
def k3m0 : Method := { name := "<init>", desc := "(D[D[I)V", sig := { parameters := [.double, (.array .double), (.array .int)], returnType := none }, accessFlags := 1, code := some k3c0 }
def k3c1 : Code := { maxStack := 4, maxLocals := 8, code := prog_59_method_2_code, exceptionTable := #[], attributes := #[] }
def k3m1 : Method := { name := "costUsd", desc := "()D", sig := { parameters := [], returnType := some .double }, accessFlags := 1, code := some k3c1 }
/-- com/example/tasks_to_slots/taskstoslots/model/PlanLayout$Totals -/
def k3 : Class := { plain "com/example/tasks_to_slots/taskstoslots/model/PlanLayout$Totals" (some 2) with
  accessFlags := 49
  interfaces := #[]
  cf := some (fileOf pool3 8 #[.nestHost 49] #[{ accessFlags := 1, nameIndex := 5, descriptorIndex := 33, attributes := #[] }, { accessFlags := 1, nameIndex := 37, descriptorIndex := 38, attributes := #[] }] 49 2 #[] #[{ accessFlags := 18, nameIndex := 11, descriptorIndex := 12, attributes := #[] }, { accessFlags := 18, nameIndex := 15, descriptorIndex := 16, attributes := #[] }, { accessFlags := 18, nameIndex := 19, descriptorIndex := 20, attributes := #[] }])
  fields := #[{ name := "makespanSeconds", type := .double, accessFlags := 18, slot := 0, constantValue := 0 }, { name := "chargesUsd", type := (.array .double), accessFlags := 18, slot := 1, constantValue := 0 }, { name := "vmByTask", type := (.array .int), accessFlags := 18, slot := 2, constantValue := 0 }]
  methods := #[k3m0, k3m1]
  instanceTypes := #[.double, (.array .double), (.array .int)]
  staticTypes := #[]
  resolved := Array.replicate 72 none
  statics := none }

def pool4 : Array CpInfo := pool [(1, u "java/lang/Cloneable"), (0, .class_ 1), (0, u "java/lang/Object"), (0, .class_ 3)] 3

/-- java/lang/Cloneable -/
def k4 : Class := { plain "java/lang/Cloneable" (some 0) with
  accessFlags := 1537
  interfaces := #[]
  cf := some (fileOf pool4 2 #[] #[] 1537 4 #[] #[])
  fields := #[]
  methods := #[]
  instanceTypes := #[]
  staticTypes := #[]
  resolved := Array.replicate 8 none
  statics := none }

def pool5 : Array CpInfo := pool [(1, u "java/io/Serializable"), (0, .class_ 1), (0, u "java/lang/Object"), (0, .class_ 3)] 3

/-- java/io/Serializable -/
def k5 : Class := { plain "java/io/Serializable" (some 0) with
  accessFlags := 1537
  interfaces := #[]
  cf := some (fileOf pool5 2 #[] #[] 1537 4 #[] #[])
  fields := #[]
  methods := #[]
  instanceTypes := #[]
  staticTypes := #[]
  resolved := Array.replicate 8 none
  statics := none }

/-- the primitive byte -/
def k6 : Class := { plain "byte" none with kind := .primitive 'B', accessFlags := 0x411 }
/-- [B -/
def k7 : Class := { plain "[B" (some 0) with kind := .array 6 .byte, interfaces := #[4, 5], accessFlags := 1041 }

/-- the primitive double -/
def k8 : Class := { plain "double" none with kind := .primitive 'D', accessFlags := 0x411 }
/-- [D -/
def k9 : Class := { plain "[D" (some 0) with kind := .array 8 .double, interfaces := #[4, 5], accessFlags := 1041 }

/-- the primitive int -/
def k10 : Class := { plain "int" none with kind := .primitive 'I', accessFlags := 0x411 }
/-- [I -/
def k11 : Class := { plain "[I" (some 0) with kind := .array 10 .int, interfaces := #[4, 5], accessFlags := 1041 }

def heap : Heap := #[]
def classes : Array Class := #[k0, k1, k2, k3, k4, k5, k6, k7, k8, k9, k10, k11]
def interned : List (Array UInt16 × Addr) := []
def slotsUsed : Nat := 0
def theMethod : MethodId := ⟨1, 1⟩
def args0 : Array Value := #[.int 5, .int 5, .int 5, .int 5, .int 5]
def aboutOver (below : List Frame) : State where
  vm := { classes := classes, interned := interned.toArray }
  heap := heap
  slotsUsed := slotsUsed
  threads := #[{ frames := .invoking theMethod args0 :: below }]
def below0 : List Frame := [.native { method := ⟨0, 0⟩, args := #[] }]
def about1 : State := aboutOver below0
def p0 : Program := .bare "" "" ""
def e0 : Env := launch0.env 0 0 0
theorem w_frames : about1.frames = Frame.invoking theMethod args0 :: below0 := rfl
set_option maxRecDepth 65536 in
theorem w_args : argsFit about1.vm theMethod args0 = true := by decide +kernel
set_option maxRecDepth 65536 in
theorem w_heap : heapFits about1 = true := by decide +kernel
set_option maxRecDepth 65536 in
theorem w_runnable : about1.curStatus? = some .runnable := by decide +kernel
set_option maxRecDepth 65536 in
theorem w_alone : about1.alone = true := by decide +kernel
set_option maxRecDepth 65536 in
theorem w_named : about1.methodNamed? x = some theMethod := by decide +kernel
set_option maxRecDepth 65536 in
theorem w_hears : about1.hears theMethod below0 = true := by decide +kernel
set_option maxRecDepth 65536 in
theorem w_ripe : about1.ripe theMethod args0 below0 = true := by decide +kernel
theorem w_running : about1.status = .running := rfl
set_option maxRecDepth 65536 in
theorem w_room : about1.hasRoom e0.platform room_1 = true :=
  launch0.hasRoom_least _ room_1 (by decide +kernel) (by decide +kernel) (by decide +kernel) (by decide +kernel) (by decide +kernel) (by decide +kernel)
theorem allAtoms_all (ts : List Jvm.Cond) (a : Array Jvm.Value) (st : Jvm.State) : (allAtoms ts).before a st = ts.all (fun c => c.before a st) := by
  induction ts with
  | nil => rfl
  | cons c t ih =>
    show (Jvm.Cond.and c (allAtoms t)).before a st = _
    rw [Jvm.Cond.before_and, ih, List.all_cons]
def words1 : List Jvm.Cond := Jvm.Cond.code x code maxLocals ret :: tables_1
/-- a 'code' word, met by the world's own term for the bytes: nothing is compared byte by byte -/
theorem code_word {y : MethodName} {bytes : ByteArray} {mx : Nat} {rt : Option FieldType} {a : Array Value} {s : State} {m : MethodId} {meth : Method} {c : Code} (h1 : s.methodNamed? y = some m) (h2 : s.vm.method? m = some meth) (h3 : meth.code = some c) (h4 : c.code = bytes)
    (h5 : (c.maxLocals == mx && c.exceptionTable.isEmpty && decide (c.maxStack ≤ mostOperands) && decide (meth.sig.returnType = rt) && !meth.locks && decide (parseMethodDescriptor y.desc = some meth.sig)) = true) : (Jvm.Cond.code y bytes mx rt).before a s = true := by
  simp only [Bool.and_eq_true, beq_iff_eq, Bool.not_eq_true', decide_eq_true_eq] at h5
  obtain ⟨⟨⟨⟨⟨g1, g2⟩, g3⟩, g4⟩, g5⟩, g6⟩ := h5
  simp [Cond.before, Cond.holds, Cond.value, h1, h2, h3, h4, g1, g2, g3, g4, g5, g6]
def isCode : Jvm.Cond → Bool
  | .code _ _ _ _ => true
  | _ => false
theorem all_split {L : List Jvm.Cond} {P : Jvm.Cond → Bool} (h1 : L.all (fun c => isCode c || P c) = true) (h2 : ∀ c ∈ L.filter isCode, P c = true) : L.all P = true := by
  refine List.all_eq_true.mpr fun c hc => ?_
  have h := List.all_eq_true.mp h1 c hc
  rcases Bool.eq_false_or_eq_true (isCode c) with hi | hi
  · exact h2 c (List.mem_filter.mpr ⟨hc, hi⟩)
  · simpa [hi] using h
set_option maxRecDepth 65536 in
theorem w_c0 : (Jvm.Cond.code x code maxLocals ret).before args0 about1 = true := code_word (m := ⟨1, 1⟩) (meth := k1m1) (c := k1c1) (by decide +kernel) rfl rfl rfl (by decide +kernel)
set_option maxRecDepth 65536 in
theorem w_c1 : (Jvm.Cond.code ({ cls := "com/example/tasks_to_slots/taskstoslots/model/TotalsCostUsdPinLaw", name := "charges", desc := "(IJJJJ)[D" } : Jvm.MethodName) method_3_code (9 : Nat) (Option.some (Jvm.ClassFile.FieldType.array Jvm.ClassFile.FieldType.double))).before args0 about1 = true := code_word (m := ⟨1, 2⟩) (meth := k1m2) (c := k1c2) (by decide +kernel) rfl rfl rfl (by decide +kernel)
set_option maxRecDepth 65536 in
theorem w_c2 : (Jvm.Cond.code ({ cls := "com/example/tasks_to_slots/taskstoslots/model/PlanLayout$Totals", name := "<init>", desc := "(D[D[I)V" } : Jvm.MethodName) prog_59_method_1_code (5 : Nat) (Option.none : Option Jvm.ClassFile.FieldType)).before args0 about1 = true := code_word (m := ⟨3, 0⟩) (meth := k3m0) (c := k3c0) (by decide +kernel) rfl rfl rfl (by decide +kernel)
set_option maxRecDepth 65536 in
theorem w_c3 : (Jvm.Cond.code ({ cls := "java/lang/Record", name := "<init>", desc := "()V" } : Jvm.MethodName) jdk_30_method_1_code (1 : Nat) (Option.none : Option Jvm.ClassFile.FieldType)).before args0 about1 = true := code_word (m := ⟨2, 0⟩) (meth := k2m0) (c := k2c0) (by decide +kernel) rfl rfl rfl (by decide +kernel)
set_option maxRecDepth 65536 in
theorem w_c4 : (Jvm.Cond.code ({ cls := "java/lang/Object", name := "<init>", desc := "()V" } : Jvm.MethodName) object_method_1_code (1 : Nat) (Option.none : Option Jvm.ClassFile.FieldType)).before args0 about1 = true := code_word (m := ⟨0, 0⟩) (meth := k0m0) (c := k0c0) (by decide +kernel) rfl rfl rfl (by decide +kernel)
set_option maxRecDepth 65536 in
theorem w_c5 : (Jvm.Cond.code ({ cls := "com/example/tasks_to_slots/taskstoslots/model/PlanLayout$Totals", name := "costUsd", desc := "()D" } : Jvm.MethodName) prog_59_method_2_code (8 : Nat) (Option.some Jvm.ClassFile.FieldType.double)).before args0 about1 = true := code_word (m := ⟨3, 1⟩) (meth := k3m1) (c := k3c1) (by decide +kernel) rfl rfl rfl (by decide +kernel)
def codes1 : List Jvm.Cond := [Jvm.Cond.code x code maxLocals ret, Jvm.Cond.code ({ cls := "com/example/tasks_to_slots/taskstoslots/model/TotalsCostUsdPinLaw", name := "charges", desc := "(IJJJJ)[D" } : Jvm.MethodName) method_3_code (9 : Nat) (Option.some (Jvm.ClassFile.FieldType.array Jvm.ClassFile.FieldType.double)), Jvm.Cond.code ({ cls := "com/example/tasks_to_slots/taskstoslots/model/PlanLayout$Totals", name := "<init>", desc := "(D[D[I)V" } : Jvm.MethodName) prog_59_method_1_code (5 : Nat) (Option.none : Option Jvm.ClassFile.FieldType), Jvm.Cond.code ({ cls := "java/lang/Record", name := "<init>", desc := "()V" } : Jvm.MethodName) jdk_30_method_1_code (1 : Nat) (Option.none : Option Jvm.ClassFile.FieldType), Jvm.Cond.code ({ cls := "java/lang/Object", name := "<init>", desc := "()V" } : Jvm.MethodName) object_method_1_code (1 : Nat) (Option.none : Option Jvm.ClassFile.FieldType), Jvm.Cond.code ({ cls := "com/example/tasks_to_slots/taskstoslots/model/PlanLayout$Totals", name := "costUsd", desc := "()D" } : Jvm.MethodName) prog_59_method_2_code (8 : Nat) (Option.some Jvm.ClassFile.FieldType.double)]
set_option maxRecDepth 65536 in
theorem codes_eq : words1.filter isCode = codes1 := rfl
theorem w_codes : ∀ c ∈ words1.filter isCode, c.before args0 about1 = true := by
  rw [codes_eq]
  intro c hc
  simp only [codes1, List.mem_cons, List.not_mem_nil, or_false] at hc
  rcases hc with rfl | rfl | rfl | rfl | rfl | rfl
  · exact w_c0
  · exact w_c1
  · exact w_c2
  · exact w_c3
  · exact w_c4
  · exact w_c5
set_option maxRecDepth 65536 in
theorem w_t1 : (words1.take 24).all (fun c => isCode c || c.before args0 about1) = true := by decide +kernel
set_option maxRecDepth 65536 in
theorem w_t2 : (words1.drop 24).all (fun c => isCode c || c.before args0 about1) = true := by decide +kernel
theorem w_tables : (allAtoms (Jvm.Cond.code x code maxLocals ret :: tables_1)).before args0 about1 = true := by
  rw [allAtoms_all]
  show words1.all (fun c => c.before args0 about1) = true
  refine all_split ?_ w_codes
  rw [← List.take_append_drop 24 words1, List.all_append, w_t1, w_t2]
  rfl
set_option maxRecDepth 65536 in
theorem w_case : (Jvm.Cond.and given_1 narrow_1).before args0 about1 = true := by decide +kernel
theorem w_applies : (headSpec (Jvm.Cond.code x code maxLocals ret :: tables_1) room_1).applies x e0.platform about1 = true :=
  (Spec.applies_iff w_frames).mpr ⟨w_running, w_runnable, w_alone, w_named, w_hears, w_ripe, w_room, w_tables⟩
theorem atStart : AtStart classFile x code maxLocals ret World_1 tables_1 room_1 Calls_1 rest_1 Pre_1 launch0 p0 e0 about1 theMethod args0 below0 :=
  ⟨lists_1, trivial, launch0.admits_env _ _ _, launch0.least_env, fairChoices_fair.cas, fairChoices_fair.clock, w_frames, w_args, w_heap, w_applies, trivial, trivial, w_case⟩
end start1
theorem witness_1 : WitnessClaimed_1 := ⟨start1.p0, start1.e0, start1.about1, start1.theMethod, start1.args0, start1.below0, start1.atStart⟩
end Jvm.Pilot.@@N@@
