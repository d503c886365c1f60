import JvmDerived
import JvmDerived.Pilot.@@N@@Statement
import JvmDerived.Pilot.@@N@@Code
set_option linter.unusedVariables false
set_option linter.unusedSimpArgs false
namespace Jvm.RoadKit
open Sem ClassFile Op Lib Jvm.Stand Jvm.Free Jvm.LawKit
section New
variable {p : Program} {l : Launch} {e : Env} {R : Room} {s : State} {m : MethodId} {args : Array Value} {below : List Frame} {meth : Method} {c : Code} {T : State} {locs : List Loc} {cells slots : Nat}
theorem retI (X : Stand p l e R s m args below meth c T locs cells slots) (hx : p.tables.exec = Jvm.exec) {pc : Nat} {Ls : Array Slot} {z : Int32} {rest : List Value} (hret : meth.sig.returnType = some .int) (hd : decode c.code pc = .ok (.ireturn, 1)) {fs : List Frame}
    (hl : ∀ (f : JFrame) (acts : List Action), f.method = m → f.locked = none → f.entered = [] → (doReturn e (T.setTop f) acts (some (.int z))).1 = T.setFrames fs) : Steps p.tables e below (T.setTop (mkF m pc Ls (.int z :: rest))) (T.setFrames fs) := by
  have hm' : T.vm.method? m = some meth := X.method'
  have hn : narrow .int (.int z) = .int z := rfl
  show Steps p.tables e below (T.setTop { method := m, pc := pc, locals := Ls, stack := _ :: rest, locked := none }) _
  jvm_step X.here [X.here.top, hx, hd, hm', hret, hn]
  first | (intro acts; rw [hl _ acts rfl rfl rfl]) | rw [hl _ _ rfl rfl rfl]
  exact Steps.refl _
end New
end Jvm.RoadKit
namespace Jvm.Pilot.@@N@@
open Jvm Jvm.ClassFile Sem Op Lib Jvm.Free Jvm.Stand Jvm.LawKit Jvm.RoadKit Bundle Jvm.Pilot.@@N@@.Jvm.D
/-- two slots that hold nothing, or one double or long -/
def own_Two (s t : Slot) : Prop := (s = .unset ∧ t = .unset) ∨ (∃ d, s = .val (.double d) ∧ t = .second) ∨ ∃ d, s = .val (.long d) ∧ t = .second
theorem own_pad {p : Program} {l : Launch} {e : Env} {R : Room} {s : State} {m : MethodId} {args : Array Value} {below : List Frame} {meth : Method} {c : Code} {T : State} {locs : List Loc} {k n k' n' : Nat} (X : Stand p l e R s m args below meth c T locs k n) (hk : k ≤ k') (hn : n ≤ n') : Stand p l e R s m args below meth c T locs k' n' := { X with same := X.same.mono hk hn }
/-- the walk from S on comes to an end of which Q is true -/
def own_End (p : Program) (e : Env) (below : List Frame) (Q : Outcome → State → Prop) (S : State) : Prop := ∃ s₂ o, Steps p.tables e below S s₂ ∧ s₂.status = .running ∧ Ended s₂ below o ∧ Q o s₂
theorem own_go {p : Program} {e : Env} {below : List Frame} {Q : Outcome → State → Prop} {S S' : State} (h : ∀ t, Steps p.tables e below S' t → Steps p.tables e below S t) (k : own_End p e below Q S') : own_End p e below Q S := by
  obtain ⟨s₂, o, h1, h2⟩ := k
  exact ⟨s₂, o, h s₂ h1, h2⟩
/-! a whole number against a product that is rounded once -/
section OwnFp
open Jvm.FP.Core
theorem own_qm : b64.qmin = -1074 := by decide
theorem own_zw {i : Int} {d : Datum} (h : Whole i d) (hf : FP.Core.fits b64 d) : zval b64 d = i * ((2 ^ 1074 : Nat) : Int) := by
  cases d with
  | nan => exact h.elim
  | inf => exact h.elim
  | fin s c q =>
    have hq : b64.qmin ≤ q := hf.2.1
    have u := whole_units h (e := b64.qmin) hq
    show signed s (inUnits c q b64.qmin) = _
    rw [own_qm] at u ⊢
    have e1 : (-1074 : Int).toNat = 0 := by decide
    have e2 : (- -1074 : Int).toNat = 1074 := by decide
    rw [e1, e2] at u
    simpa using u
theorem own_cval : val64 (4607182418804521008 : UInt64) = .fin false 4503599631874096 (-52) := by decide +kernel
theorem own_czm : zmag b64 (.fin false 4503599631874096 (-52)) = 4503599631874096 * 2 ^ 1022 := by
  show 4503599631874096 * 2 ^ ((-52 : Int) - b64.qmin).toNat = _
  rw [own_qm]
  have e : ((-52 : Int) - -1074).toNat = 1022 := by decide
  rw [e]
/-- the product, exact, in units of the least number's square -/
theorem own_prod {b : Int64} (h0 : 0 ≤ b.toInt) (h1 : b.toInt < 2147483648) : ∃ s c q, val64 (FP.dmul (FP.l2d b) (4607182418804521008 : UInt64)) = round b64 (.fin s c q) ∧ 2 * b64.qmin ≤ q ∧ signed s (inUnits c q (2 * b64.qmin)) = b.toInt * ((2 ^ 1074 : Nat) : Int) * (4503599631874096 * ((2 ^ 1022 : Nat) : Int)) := by
  have hw : Whole b.toInt (val64 (FP.l2d b)) := l2d_int (by omega)
  have hf := val64_fits (FP.l2d b)
  have hz := own_zw hw hf
  rw [show ∀ x y, FP.dmul x y = FP.Core.dmul x y from fun _ _ => rfl, val64_dmul, own_cval]
  cases e : val64 (FP.l2d b) with
  | nan => rw [e] at hw; exact hw.elim
  | inf => rw [e] at hw; exact hw.elim
  | fin s c q =>
    rw [e] at hf hz
    have hc : FP.Core.fits b64 (.fin false 4503599631874096 (-52)) := by rw [← own_cval]; exact val64_fits _
    obtain ⟨p1, p2, p3⟩ := product_units hf hc
    refine ⟨_, _, _, congrArg (round b64) p1, p2, ?_⟩
    rw [p3, own_czm, show (s != false) = s by cases s <;> rfl, signed_mul]
    have hz' : signed s (zmag b64 (.fin s c q)) = b.toInt * ((2 ^ 1074 : Nat) : Int) := hz
    rw [hz', Int.natCast_mul]; rfl
theorem own_pow : ((2 ^ 1074 : Nat) : Int) = 4503599627370496 * ((2 ^ 1022 : Nat) : Int) := by
  rw [show (2 ^ 1074 : Nat) = 2 ^ 52 * 2 ^ 1022 from by rw [← Nat.pow_add], Int.natCast_mul]; rfl
theorem own_pow2 : ((2 ^ 1053 : Nat) : Int) = 2147483648 * ((2 ^ 1022 : Nat) : Int) := by
  rw [show (2 ^ 1053 : Nat) = 2 ^ 31 * 2 ^ 1022 from by rw [← Nat.pow_add], Int.natCast_mul]; rfl
theorem own_ppos (n : Nat) : (0 : Int) < ((2 ^ n : Nat) : Int) := by have := Nat.two_pow_pos n; omega
theorem own_e1 : (b64.qmin - 2 * b64.qmin).toNat = 1074 := by rw [own_qm]; decide
theorem own_ne {b : Int64} : val64 (FP.dmul (FP.l2d b) (4607182418804521008 : UInt64)) ≠ .nan ∧ FP.Core.fits b64 (val64 (FP.dmul (FP.l2d b) (4607182418804521008 : UInt64))) := by
  refine ⟨?_, val64_fits _⟩
  have h := Jvm.Free.Fl.dmul_out (Jvm.Free.Fl.l2d_fin b) (show Jvm.Free.Fl.Fin64 (4607182418804521008 : UInt64) by unfold Jvm.Free.Fl.Fin64; decide)
  exact (notNaN_iff _).mp (Jvm.Free.Fl.noNaN64_no.mp h)
theorem own_cost (c : Int32) : Whole c.toInt (val64 (FP.i2d c)) ∧ FP.Core.fits b64 (val64 (FP.i2d c)) := ⟨i2d_int c, val64_fits _⟩
theorem own_le {b : Int64} {c : Int32} (h0 : 0 ≤ b.toInt) (h1 : b.toInt < 2147483648) (h : c.toInt * 4503599627370496 ≤ b.toInt * 4503599631874096) : ¬ (0 : Int32) < cmpValue (FP.dcmp (FP.i2d c) (FP.dmul (FP.l2d b) (4607182418804521008 : UInt64))) .g := by
  obtain ⟨s, k, q, e, hq, u⟩ := own_prod h0 h1
  obtain ⟨hw, hf⟩ := own_cost c
  have hz := own_zw hw hf
  have hge : zval b64 (val64 (FP.i2d c)) ≤ zval b64 (round b64 (.fin s k q)) := by
    refine zval_round_ge good_b64 hf hw.ne_nan (e0 := 2 * b64.qmin) (by rw [own_qm]; decide) hq ?_
    rw [u, hz, own_e1]
    have p := own_ppos 1022; have r := own_ppos 1074
    rw [own_pow] at *
    generalize ((2 ^ 1022 : Nat) : Int) = P at *
    have a1 : c.toInt * (4503599627370496 * P) * (4503599627370496 * P) = (c.toInt * 4503599627370496) * (4503599627370496 * (P * P)) := by ac_rfl
    have a2 : b.toInt * (4503599627370496 * P) * (4503599631874096 * P) = (b.toInt * 4503599631874096) * (4503599627370496 * (P * P)) := by ac_rfl
    rw [a1, a2]
    exact Int.mul_le_mul_of_nonneg_right h (by have := Int.mul_pos p p; omega)
  rw [← e] at hge
  have ho : FP.dcmp (FP.i2d c) (FP.dmul (FP.l2d b) (4607182418804521008 : UInt64)) = some (compare (zval b64 (val64 (FP.i2d c))) (zval b64 (val64 (FP.dmul (FP.l2d b) (4607182418804521008 : UInt64))))) := order_zval good_b64 hf own_ne.2 hw.ne_nan own_ne.1
  rw [ho, compare_ite]
  rcases Int.lt_or_eq_of_le hge with g | g
  · rw [if_pos g]; decide
  · rw [if_neg (by omega), if_pos g]; decide
theorem own_gt {b : Int64} {c : Int32} (h0 : 0 ≤ b.toInt) (h1 : b.toInt < 2147483648) (hc : 0 < c.toInt) (h : b.toInt * 4503599631874096 ≤ (c.toInt * 2097152 - 1) * 2147483648) : (0 : Int32) < cmpValue (FP.dcmp (FP.i2d c) (FP.dmul (FP.l2d b) (4607182418804521008 : UInt64))) .g := by
  obtain ⟨s, k, q, e, hq, u⟩ := own_prod h0 h1
  obtain ⟨hw, hf⟩ := own_cost c
  have hz := own_zw hw hf
  have hcr := rng32 c
  obtain ⟨n, hn⟩ : ∃ n : Nat, (n : Int) = c.toInt * 2097152 - 1 := ⟨(c.toInt * 2097152 - 1).toNat, by omega⟩
  obtain ⟨c', q', e', u'⟩ := round_exact good_b64 false (c := n) (q := -21) (show n < 2 ^ 53 by omega) (by decide) (by decide)
  have fV : FP.Core.fits b64 (.fin false c' q') := by rw [← e']; exact round_fits good_b64 _
  have zV : zval b64 (.fin false c' q') = (n : Int) * ((2 ^ 1053 : Nat) : Int) := by
    show signed false (inUnits c' q' b64.qmin) = _
    rw [u']
    show ((n * 2 ^ ((-21 : Int) - b64.qmin).toNat : Nat) : Int) = _
    rw [own_qm, show ((-21 : Int) - -1074).toNat = 1053 by decide, Int.natCast_mul]
  have hle : zval b64 (round b64 (.fin s k q)) ≤ zval b64 (.fin false c' q') := by
    refine zval_round_le good_b64 fV (by simp) (e0 := 2 * b64.qmin) (by rw [own_qm]; decide) hq ?_
    rw [u, zV, own_e1]
    have p := own_ppos 1022
    rw [own_pow, own_pow2]
    generalize ((2 ^ 1022 : Nat) : Int) = P at *
    have a1 : (n : Int) * (2147483648 * P) * (4503599627370496 * P) = ((n : Int) * 2147483648) * (4503599627370496 * (P * P)) := by ac_rfl
    have a2 : b.toInt * (4503599627370496 * P) * (4503599631874096 * P) = (b.toInt * 4503599631874096) * (4503599627370496 * (P * P)) := by ac_rfl
    rw [a1, a2]
    exact Int.mul_le_mul_of_nonneg_right (by rw [hn]; exact h) (by have := Int.mul_pos p p; omega)
  have hlt : zval b64 (.fin false c' q') < zval b64 (val64 (FP.i2d c)) := by
    rw [zV, hz, own_pow, own_pow2, hn]
    have p := own_ppos 1022
    generalize ((2 ^ 1022 : Nat) : Int) = P at *
    have a1 : (c.toInt * 2097152 - 1) * (2147483648 * P) = ((c.toInt * 2097152 - 1) * 2147483648) * P := by ac_rfl
    have a2 : c.toInt * (4503599627370496 * P) = (c.toInt * 4503599627370496) * P := by ac_rfl
    rw [a1, a2]
    exact Int.mul_lt_mul_of_pos_right (by omega) p
  rw [← e] at hle
  have ho : FP.dcmp (FP.i2d c) (FP.dmul (FP.l2d b) (4607182418804521008 : UInt64)) = some (compare (zval b64 (val64 (FP.i2d c))) (zval b64 (val64 (FP.dmul (FP.l2d b) (4607182418804521008 : UInt64))))) := order_zval good_b64 hf own_ne.2 hw.ne_nan own_ne.1
  rw [ho, compare_ite, if_neg (by omega), if_neg (by omega)]; decide
end OwnFp
def own_cov (b : Int64) (c : Int32) : Int32 := if (0 : Int32) < cmpValue (FP.dcmp (FP.i2d c) (FP.dmul (FP.l2d b) (4607182418804521008 : UInt64))) .g then 0 else 1
theorem own_cov1 {b : Int64} {c : Int32} (h0 : 0 ≤ b.toInt) (h1 : b.toInt < 2147483648) (h : c.toInt * 4503599627370496 ≤ b.toInt * 4503599631874096) : own_cov b c = 1 := by
  unfold own_cov; rw [if_neg (own_le h0 h1 h)]
theorem own_cov0 {b : Int64} {c : Int32} (h0 : 0 ≤ b.toInt) (h1 : b.toInt < 2147483648) (hc : 0 < c.toInt) (h : b.toInt * 4503599631874096 ≤ (c.toInt * 2097152 - 1) * 2147483648) : own_cov b c = 0 := by
  unfold own_cov; rw [if_pos (own_gt h0 h1 hc h)]
theorem own_mnn (b : Int64) : Jvm.Free.Fl.NoNaN64 (FP.dmul (FP.l2d b) (4607182418804521008 : UInt64)) := Jvm.Free.Fl.dmul_out (Jvm.Free.Fl.l2d_fin b) (by unfold Jvm.Free.Fl.Fin64; decide)
theorem own_fin (b : Int64) : ¬ (0 : Int32) < cmpValue (FP.dcmp (FP.l2d b &&& (0x7fffffffffffffff : UInt64)) (9218868437227405311 : UInt64)) .l := by
  have hn := (Jvm.Free.Fl.l2d_fin b).noNaN
  intro h
  rw [cmpV_l] at h
  generalize hq : FP.dcmp (FP.l2d b &&& (0x7fffffffffffffff : UInt64)) (9218868437227405311 : UInt64) = q at h
  have g : q = some .gt := by exact (FP.Core.cmpInt_l_gt _).mp h
  subst g
  have := (Jvm.Free.Fl.gt_max_iff hn).mp (by unfold Jvm.Free.Fl.maxD; rw [hq]; rfl)
  exact this (Jvm.Free.Fl.l2d_fin b)
theorem own_nneg {b : Int64} (h0 : 0 ≤ b.toInt) (h1 : b.toInt < 2147483648) : ¬ cmpValue (FP.dcmp (FP.l2d b) (0 : UInt64)) .l < (0 : Int32) := by
  rw [← l2d_zero, dcmpV_w ⟨by omega, by omega⟩ ⟨by decide, by decide⟩]
  intro h
  have q := (lw_lt b 0).mp h
  rw [Int64.lt_iff_toInt_lt] at q
  have z : (0 : Int64).toInt = 0 := by decide
  omega
theorem own_mask (x : Int32) : 0 ≤ (x.toInt64 &&& (2147483647 : Int64)).toInt ∧ (x.toInt64 &&& (2147483647 : Int64)).toInt < 2147483648 := by
  have a := c_maskL x.toInt64 (2147483647 : Int64) 31 (by decide) (by decide)
  omega
theorem own_n1 {b : Int64} {c : Int32} (h0 : 0 ≤ b.toInt) (h1 : b.toInt < 2147483648) : (c.toInt64 - b).toInt = c.toInt - b.toInt := by
  have k1 := c_i2l c; have k2 := c_lsub c.toInt64 b; have k3 := rng64 (c.toInt64 - b); have k4 := rng32 c
  omega
theorem own_n2 {b : Int64} {c : Int32} (h0 : 0 ≤ b.toInt) (h1 : b.toInt < 2147483648) : ((c.toInt64 - b) * (1000000000 : Int64)).toInt = (c.toInt - b.toInt) * 1000000000 := by
  have k1 := own_n1 (c := c) h0 h1; have k4 := rng32 c; have k5 := c_lmul (c.toInt64 - b) (1000000000 : Int64); have k6 := rng64 ((c.toInt64 - b) * (1000000000 : Int64))
  have z1 : (1000000000 : Int64).toInt = 1000000000 := by decide
  rw [k1, z1] at k5
  generalize ((c.toInt64 - b) * (1000000000 : Int64)).toInt = x at *
  clear k1
  generalize b.toInt = y at *
  generalize c.toInt = w at *
  omega
theorem own_n3 {b : Int64} (h0 : 0 ≤ b.toInt) (h1 : b.toInt < 2147483648) : (b + (1000 : Int64)).toInt = b.toInt + 1000 := by
  have k7 := c_ladd b (1000 : Int64); have k8 := rng64 (b + (1000 : Int64))
  have z2 : (1000 : Int64).toInt = 1000 := by decide
  omega
theorem own_n4 {b : Int64} (h0 : 0 ≤ b.toInt) (h1 : b.toInt < 2147483648) : (b - (1000 : Int64)).toInt = b.toInt - 1000 := by
  have k7 := c_lsub b (1000 : Int64); have k8 := rng64 (b - (1000 : Int64))
  have z2 : (1000 : Int64).toInt = 1000 := by decide
  omega
theorem own_i0 {b c : Int} (h0 : 0 ≤ b) (h : 0 < c - b) : 0 < c := by omega
theorem own_i1 {b c : Int} (h0 : 0 ≤ b) (h : ¬ 0 < c - b) : c * 4503599627370496 ≤ b * 4503599631874096 := by omega
theorem own_i2 {b c : Int} (h0 : 0 ≤ b) (h1 : b < 2147483648) (h : b + 1000 < (c - b) * 1000000000) : b * 4503599631874096 ≤ (c * 2097152 - 1) * 2147483648 := by omega
theorem own_i3 {b c : Int} (h0 : 0 ≤ b) (h : (c - b) * 1000000000 < b - 1000) : c * 4503599627370496 ≤ b * 4503599631874096 := by omega
theorem own_bool1 : nar .boolean (1 : Int32) = 1 := by decide
theorem dR_0 : decode jdk_30_method_1_code 0 = .ok (.aload_n 0, 1) := by decide +kernel
theorem dR_1 : decode jdk_30_method_1_code 1 = .ok (.invokespecial 1, 3) := by decide +kernel
theorem dR_4 : decode jdk_30_method_1_code 4 = .ok (.return_, 1) := by decide +kernel
theorem pn_0 : plainName "java/lang/Record" = true := by first | (simp [plainName, overriddenIn]; done) | decide +kernel
theorem ef_R (m : MethodId) (x0 : Addr) : entryFrame m #[(.ref x0)] 1 = mkF m 0 #[.val (.ref x0)] [] := by first | (simp [entryFrame, mkF, argsToLocals, Value.category]; done) | rfl
def QR (Z : State) (a : Addr) (h0 : Heap) (n0 : Nat) (v : Option Value) (h : Heap) (L : List Loc) : Prop := v = none ∧ Fr n0 L ∧ h = h0
def PR (Z : State) (a : Addr) (h0 : Heap) (n0 : Nat) (s : State) (oQ : Outcome) (U : State) : Prop := ∃ v L, oQ = .returned v ∧ QR Z a h0 n0 v U.heap L ∧ FrameEnd s oQ U L ({ frames := 1, cells := 0, slots := 0, locals := 12 } : Room).cells ({ frames := 1, cells := 0, slots := 0, locals := 12 } : Room).slots
set_option maxRecDepth 65536 in
set_option maxHeartbeats 40000000 in
theorem rmR (l : Launch) (Z : State) (a0 : Array Value) (hw : ∀ d ∈ tables_1, d.before a0 Z = true) (ws : List Jvm.Cond) (a : Addr) (h0 : Heap) (n0 : Nat) (Z0 : n0 ≤ h0.size)  :
    MetFree l (⟨"java/lang/Record", "<init>", "()V"⟩ : MethodName) (head1 (Jvm.Cond.code (⟨"java/lang/Record", "<init>", "()V"⟩ : MethodName) jdk_30_method_1_code 1 none :: ws) ({ frames := 1, cells := 0, slots := 0, locals := 12 } : Room)) (fun aQ U => aQ = #[(.ref a)] ∧ Z.Warmed39 U.vm ∧ U.heap = h0) (fun _ _ _ _ _ => True) (fun _ U oQ U' => ∃ v L, oQ = .returned v ∧ QR Z a h0 n0 v U'.heap L ∧ FrameEnd U oQ U' L ({ frames := 1, cells := 0, slots := 0, locals := 12 } : Room).cells ({ frames := 1, cells := 0, slots := 0, locals := 12 } : Room).slots) := by
  refine MetFree.of_bodySF (plainFor_of_name pn_0) hisR ?_
  intro p e s m args below meth c s₁ Bd hml0 hP hK
  obtain ⟨rfl, hZ, hh⟩ := hP
  have hx := Bd.exec
  have hby := Bd.bytes
  have hml : c.maxLocals = 1 := hml0
  have hown : s.vm.findClass "java/lang/Record" = some m.cls := findClass_of_methodNamed Bd.named
  have hnm := (name_of_methodNamed Bd.named Bd.method).1
  have X0 : Stand p l e ({ frames := 1, cells := 0, slots := 0, locals := 12 } : Room) s m #[(.ref a)] below meth c s₁ [] 0 0 := Stand.of_body Bd
  have e0 : s₁.heap = h0 := by rw [← hh, Bd.state]; rfl
  have Nf := Fr.nil n0
  have Zs : n0 ≤ h0.size := Z0
  have Kp : Keep h0 h0 [] := Keep.refl _ _
  have szr : h0.size ≤ h0.size := Nat.le_refl _
  show own_End p e below (PR Z a h0 n0 s) (s₁.setTop (entryFrame m #[(.ref a)] 1))
  rw [ef_R]
  refine own_go (fun tQ kQ => XS.aloadN X0.here hx rfl (hb hby dR_0) rfl rfl kQ) ?_
  show own_End p e below _ (s₁.setTop (mkF m 1 #[.val (.ref a)] [(.ref a)]))
  obtain ⟨T1, X1, e1, st1⟩ := initO X0 hx hZ hown (hw _ (List.mem_of_getElem? (i := 12) rfl)) (hw _ (List.mem_of_getElem? (i := 13) rfl)) (hw _ (List.mem_of_getElem? (i := 14) rfl)) e0 (g := (mkF m 1 #[.val (.ref a)] [(.ref a)])) rfl (by rw [hml]; rfl) rfl (hb hby dR_1) (by decide) (W := 0) (by show 2 * 0 + _ ≤ _; exact Nat.le_of_eq rfl) (by decide)
  refine own_go (fun tQ kQ => st1 tQ kQ) ?_
  show own_End p e below _ (T1.setTop (mkF m 4 #[.val (.ref a)] []))
  obtain ⟨fs, hr, hrun, hended, hW, hsame⟩ := X1.leave (v := none) (fun _ => rfl)
  refine ⟨_, _, X1.returnOut hx Bd.returns (hb hby dR_4) hr, hrun, hended, _, _, rfl, ?_, ⟨_, rfl⟩, hW, hsame.mono (by decide) (by decide)⟩
  show QR Z a h0 n0 _ T1.heap _
  rw [e1]
  exact ⟨rfl, Nf, rfl⟩
theorem pd_1 : parseMethodDescriptor "(D)D" = some ⟨[.double], some .double⟩ := by decide +kernel
theorem dinf_0 : decode jdk_117_method_7_code 0 = .ok (.dload_n 0, 1) := by decide +kernel
theorem dinf_1 : decode jdk_117_method_7_code 1 = .ok (.invokestatic 38, 3) := by decide +kernel
theorem dinf_4 : decode jdk_117_method_7_code 4 = .ok (.ldc2_w 111, 3) := by decide +kernel
theorem dinf_7 : decode jdk_117_method_7_code 7 = .ok (.dcmp .l, 1) := by decide +kernel
theorem dinf_8 : decode jdk_117_method_7_code 8 = .ok (.ifCond .le 7, 3) := by decide +kernel
theorem dinf_15 : decode jdk_117_method_7_code 15 = .ok (.iconst 0, 1) := by decide +kernel
theorem dinf_16 : decode jdk_117_method_7_code 16 = .ok (.ireturn, 1) := by decide +kernel
theorem pn_2 : plainName "java/lang/Double" = true := by first | (simp [plainName, overriddenIn]; done) | decide +kernel
theorem ef_inf (m : MethodId) (x0 : UInt64) : entryFrame m #[(.double x0)] 2 = mkF m 0 #[.val (.double x0), .second] [] := by first | (simp [entryFrame, mkF, argsToLocals, Value.category]; done) | rfl
def Qinf (Z : State) (b : Int64) (h0 : Heap) (n0 : Nat) (v : Option Value) (h : Heap) (L : List Loc) : Prop := v = some (.int 0) ∧ Fr n0 L ∧ h = h0
def Pinf (Z : State) (b : Int64) (h0 : Heap) (n0 : Nat) (s : State) (oQ : Outcome) (U : State) : Prop := ∃ v L, oQ = .returned v ∧ Qinf Z b h0 n0 v U.heap L ∧ FrameEnd s oQ U L ({ frames := 1, cells := 0, slots := 0, locals := 13 } : Room).cells ({ frames := 1, cells := 0, slots := 0, locals := 13 } : Room).slots
set_option maxRecDepth 65536 in
set_option maxHeartbeats 40000000 in
theorem rminf (l : Launch) (Z : State) (a0 : Array Value) (hw : ∀ d ∈ tables_1, d.before a0 Z = true) (ws : List Jvm.Cond) (b : Int64) (h0 : Heap) (n0 : Nat) (Z0 : n0 ≤ h0.size)  :
    MetFree l (⟨"java/lang/Double", "isInfinite", "(D)Z"⟩ : MethodName) (head1 (Jvm.Cond.code (⟨"java/lang/Double", "isInfinite", "(D)Z"⟩ : MethodName) jdk_117_method_7_code 2 (some .boolean) :: ws) ({ frames := 1, cells := 0, slots := 0, locals := 13 } : Room)) (fun aQ U => aQ = #[(.double (FP.l2d b))] ∧ Z.Warmed39 U.vm ∧ U.heap = h0) (fun _ _ _ _ _ => True) (fun _ U oQ U' => ∃ v L, oQ = .returned v ∧ Qinf Z b h0 n0 v U'.heap L ∧ FrameEnd U oQ U' L ({ frames := 1, cells := 0, slots := 0, locals := 13 } : Room).cells ({ frames := 1, cells := 0, slots := 0, locals := 13 } : Room).slots) := by
  refine MetFree.of_bodySF (plainFor_of_name pn_2) hisR ?_
  intro p e s m args below meth c s₁ Bd hml0 hP hK
  obtain ⟨rfl, hZ, hh⟩ := hP
  have hx := Bd.exec
  have hby := Bd.bytes
  have hml : c.maxLocals = 2 := hml0
  have hown : s.vm.findClass "java/lang/Double" = some m.cls := findClass_of_methodNamed Bd.named
  have hnm := (name_of_methodNamed Bd.named Bd.method).1
  have X0 : Stand p l e ({ frames := 1, cells := 0, slots := 0, locals := 13 } : Room) s m #[(.double (FP.l2d b))] below meth c s₁ [] 0 0 := Stand.of_body Bd
  have e0 : s₁.heap = h0 := by rw [← hh, Bd.state]; rfl
  have Nf := Fr.nil n0
  have Zs : n0 ≤ h0.size := Z0
  have Kp : Keep h0 h0 [] := Keep.refl _ _
  have szr : h0.size ≤ h0.size := Nat.le_refl _
  show own_End p e below (Pinf Z b h0 n0 s) (s₁.setTop (entryFrame m #[(.double (FP.l2d b))] 2))
  rw [ef_inf]
  refine own_go (fun tQ kQ => XS.dloadN X0.here hx rfl (hb hby dinf_0) rfl kQ) ?_
  show own_End p e below _ (s₁.setTop (mkF m 1 #[.val (.double (FP.l2d b)), .second] [(.double (FP.l2d b))]))
  obtain ⟨T1, X1, e1, st1⟩ := natS X0 hx hZ hown (hw _ (List.mem_of_getElem? (i := 31) rfl)) (hw _ (List.mem_of_getElem? (i := 32) rfl)) (hw _ (List.mem_of_getElem? (i := 33) rfl)) (hw _ (List.mem_of_getElem? (i := 34) rfl)) (by decide) e0 (W := 0) (F := fun a' => a' = #[.double (FP.l2d b)] ∧ Jvm.Free.Fl.NoNaN64 (FP.l2d b)) (fun hc => Jvm.Free.Fl.Abs.absD_pays (W := 0) (FP.l2d b) hc (by decide) (by decide)) (g := (mkF m 1 #[.val (.double (FP.l2d b)), .second] [(.double (FP.l2d b))])) rfl (by rw [hml]; rfl) (argsL := [.double (FP.l2d b)]) (rest := []) (lenOf pd_1 rfl) rfl (by show 2 * 0 + _ ≤ _; exact Nat.le_of_eq rfl) (hb hby dinf_1) (by decide) (by decide) ⟨rfl, (Jvm.Free.Fl.l2d_fin b).noNaN⟩ rfl
  refine own_go (fun tQ kQ => st1 tQ kQ) ?_
  show own_End p e below _ (T1.setTop (mkF m 4 #[.val (.double (FP.l2d b)), .second] [(.double (FP.l2d b &&& (0x7fffffffffffffff : UInt64)))]))
  refine own_go (fun tQ kQ => X1.ldc2DoubleC hx hown (mvT hZ (hw _ (List.mem_of_getElem? (i := 35) rfl))) (g := (mkF m 4 #[.val (.double (FP.l2d b)), .second] [(.double (FP.l2d b &&& (0x7fffffffffffffff : UInt64)))])) rfl (hb hby dinf_4) _ kQ) ?_
  show own_End p e below _ (T1.setTop (mkF m 7 #[.val (.double (FP.l2d b)), .second] [(.double (9218868437227405311 : UInt64)), (.double (FP.l2d b &&& (0x7fffffffffffffff : UInt64)))]))
  refine own_go (fun tQ kQ => XS.dcmpS X1.here hx rfl (hb hby dinf_7) rfl rfl kQ) ?_
  show own_End p e below _ (T1.setTop (mkF m 8 #[.val (.double (FP.l2d b)), .second] [(.int (cmpValue (FP.dcmp (FP.l2d b &&& (0x7fffffffffffffff : UInt64)) (9218868437227405311 : UInt64)) .l))]))
  refine own_go (fun tQ kQ => XS.ifYes X1.here hx rfl (pc0 := 8) (pc' := 15) rfl (hb hby dinf_8) rfl ((if0 _ _).trans (flt (own_fin b)).2.2.2) (by decide) (by decide) kQ) ?_
  show own_End p e below _ (T1.setTop (mkF m 15 #[.val (.double (FP.l2d b)), .second] []))
  refine own_go (fun tQ kQ => XS.iconst X1.here hx rfl (hb hby dinf_15) kQ) ?_
  show own_End p e below _ (T1.setTop (mkF m 16 #[.val (.double (FP.l2d b)), .second] [(.int (0 : Int32))]))
  obtain ⟨fs, hr, hrun, hended, hW, hsame⟩ := X1.leave (v := some (.int (0 : Int32))) (fun h => by rw [Bd.returns] at h; cases h)
  refine ⟨_, _, (retN X1 hx (t := .boolean) Bd.returns (by simp) (hb hby dinf_16) hr), hrun, hended, _, _, rfl, ?_, ⟨_, rfl⟩, hW, hsame.mono (by decide) (by decide)⟩
  show Qinf Z b h0 n0 _ T1.heap _
  rw [e1]
  exact ⟨rfl, Nf, rfl⟩
theorem pd_3 : parseMethodDescriptor "(D)Z" = some ⟨[.double], some .boolean⟩ := by decide +kernel
theorem drq_0 : decode prog_38_method_4_code 0 = .ok (.dload_n 0, 1) := by decide +kernel
theorem drq_1 : decode prog_38_method_4_code 1 = .ok (.dconst 0, 1) := by decide +kernel
theorem drq_2 : decode prog_38_method_4_code 2 = .ok (.dcmp .l, 1) := by decide +kernel
theorem drq_3 : decode prog_38_method_4_code 3 = .ok (.ifCond .lt 10, 3) := by decide +kernel
theorem drq_6 : decode prog_38_method_4_code 6 = .ok (.dload_n 0, 1) := by decide +kernel
theorem drq_7 : decode prog_38_method_4_code 7 = .ok (.invokestatic 7, 3) := by decide +kernel
theorem drq_10 : decode prog_38_method_4_code 10 = .ok (.ifCond .eq 18, 3) := by decide +kernel
theorem drq_28 : decode prog_38_method_4_code 28 = .ok (.return_, 1) := by decide +kernel
theorem pn_4 : plainName "com/example/tasks_to_slots/taskstoslots/model/Checks" = true := by first | (simp [plainName, overriddenIn]; done) | decide +kernel
theorem ef_rq (m : MethodId) (x0 : UInt64) (x1 : Addr) : entryFrame m #[(.double x0), (.ref x1)] 3 = mkF m 0 #[.val (.double x0), .second, .val (.ref x1)] [] := by first | (simp [entryFrame, mkF, argsToLocals, Value.category]; done) | rfl
def Qrq (Z : State) (b : Int64) (sx : Addr) (h0 : Heap) (n0 : Nat) (v : Option Value) (h : Heap) (L : List Loc) : Prop := v = none ∧ Fr n0 L ∧ h = h0
def Prq (Z : State) (b : Int64) (sx : Addr) (h0 : Heap) (n0 : Nat) (s : State) (oQ : Outcome) (U : State) : Prop := ∃ v L, oQ = .returned v ∧ Qrq Z b sx h0 n0 v U.heap L ∧ FrameEnd s oQ U L ({ frames := 2, cells := 0, slots := 0, locals := 26 } : Room).cells ({ frames := 2, cells := 0, slots := 0, locals := 26 } : Room).slots
set_option maxRecDepth 65536 in
set_option maxHeartbeats 40000000 in
theorem rmrq (l : Launch) (Z : State) (a0 : Array Value) (hw : ∀ d ∈ tables_1, d.before a0 Z = true) (ws : List Jvm.Cond) (b : Int64) (sx : Addr) (h0 : Heap) (n0 : Nat) (Z0 : n0 ≤ h0.size) (hb0 : 0 ≤ b.toInt) (hb1 : b.toInt < 2147483648) :
    MetFree l (⟨"com/example/tasks_to_slots/taskstoslots/model/Checks", "requireNonNegative", "(DLjava/lang/String;)V"⟩ : MethodName) (head1 (Jvm.Cond.code (⟨"com/example/tasks_to_slots/taskstoslots/model/Checks", "requireNonNegative", "(DLjava/lang/String;)V"⟩ : MethodName) prog_38_method_4_code 3 none :: ws) ({ frames := 2, cells := 0, slots := 0, locals := 26 } : Room)) (fun aQ U => aQ = #[(.double (FP.l2d b)), (.ref sx)] ∧ Z.Warmed39 U.vm ∧ U.heap = h0) (fun _ _ _ _ _ => True) (fun _ U oQ U' => ∃ v L, oQ = .returned v ∧ Qrq Z b sx h0 n0 v U'.heap L ∧ FrameEnd U oQ U' L ({ frames := 2, cells := 0, slots := 0, locals := 26 } : Room).cells ({ frames := 2, cells := 0, slots := 0, locals := 26 } : Room).slots) := by
  refine MetFree.of_bodySF (plainFor_of_name pn_4) hisR ?_
  intro p e s m args below meth c s₁ Bd hml0 hP hK
  obtain ⟨rfl, hZ, hh⟩ := hP
  have hx := Bd.exec
  have hby := Bd.bytes
  have hml : c.maxLocals = 3 := hml0
  have hown : s.vm.findClass "com/example/tasks_to_slots/taskstoslots/model/Checks" = some m.cls := findClass_of_methodNamed Bd.named
  have hnm := (name_of_methodNamed Bd.named Bd.method).1
  have X0 : Stand p l e ({ frames := 2, cells := 0, slots := 0, locals := 26 } : Room) s m #[(.double (FP.l2d b)), (.ref sx)] below meth c s₁ [] 0 0 := Stand.of_body Bd
  have e0 : s₁.heap = h0 := by rw [← hh, Bd.state]; rfl
  have Nf := Fr.nil n0
  have Zs : n0 ≤ h0.size := Z0
  have Kp : Keep h0 h0 [] := Keep.refl _ _
  have szr : h0.size ≤ h0.size := Nat.le_refl _
  show own_End p e below (Prq Z b sx h0 n0 s) (s₁.setTop (entryFrame m #[(.double (FP.l2d b)), (.ref sx)] 3))
  rw [ef_rq]
  refine own_go (fun tQ kQ => XS.dloadN X0.here hx rfl (hb hby drq_0) rfl kQ) ?_
  show own_End p e below _ (s₁.setTop (mkF m 1 #[.val (.double (FP.l2d b)), .second, .val (.ref sx)] [(.double (FP.l2d b))]))
  refine own_go (fun tQ kQ => XS.dconst0 X0.here hx rfl (hb hby drq_1) rfl kQ) ?_
  show own_End p e below _ (s₁.setTop (mkF m 2 #[.val (.double (FP.l2d b)), .second, .val (.ref sx)] [(.double (0 : UInt64)), (.double (FP.l2d b))]))
  refine own_go (fun tQ kQ => XS.dcmpS X0.here hx rfl (hb hby drq_2) rfl rfl kQ) ?_
  show own_End p e below _ (s₁.setTop (mkF m 3 #[.val (.double (FP.l2d b)), .second, .val (.ref sx)] [(.int (cmpValue (FP.dcmp (FP.l2d b) (0 : UInt64)) .l))]))
  refine own_go (fun tQ kQ => XS.ifNo X0.here hx rfl (hb hby drq_3) rfl ((if0 _ _).trans (flt (own_nneg hb0 hb1)).1) kQ) ?_
  show own_End p e below _ (s₁.setTop (mkF m 6 #[.val (.double (FP.l2d b)), .second, .val (.ref sx)] []))
  refine own_go (fun tQ kQ => XS.dloadN X0.here hx rfl (hb hby drq_6) rfl kQ) ?_
  show own_End p e below _ (s₁.setTop (mkF m 7 #[.val (.double (FP.l2d b)), .second, .val (.ref sx)] [(.double (FP.l2d b))]))
  obtain ⟨_, _, ⟨T1, L1, k1, n1⟩, -, X1, ⟨Lc1, hQ1, l1, y1, z1⟩, st1⟩ := Jvm.LawKit.callS X0 hx (y := (⟨"java/lang/Double", "isInfinite", "(D)Z"⟩ : MethodName)) hown (mvT hZ (hw _ (List.mem_of_getElem? (i := 27) rfl))) (mvT hZ (hw _ (List.mem_of_getElem? (i := 28) rfl))) (mvT hZ (hw _ (List.mem_of_getElem? (i := 29) rfl))) (mvT hZ (hw _ (List.mem_of_getElem? (i := 30) rfl))) (by decide) (backOf (W := 0) (rminf l Z a0 hw [] b h0 n0 Zs ) hZ (hw _ (List.mem_of_getElem? (i := 30) rfl)) (hw _ (List.mem_of_getElem? (i := 29) rfl)) (by decide) (by decide)) (g := (mkF m 7 #[.val (.double (FP.l2d b)), .second, .val (.ref sx)] [(.double (FP.l2d b))])) rfl (by rw [hml]; rfl) (argsL := [(.double (FP.l2d b))]) (rest := []) (lenOf pd_3 rfl) rfl (by show 2 * 0 + _ ≤ _; exact Nat.le_of_eq rfl) (hb hby drq_7) (fun _ _ => ⟨rfl, e0, (Nat.le_of_ble_eq_true rfl), (Nat.le_of_ble_eq_true rfl)⟩)
  dsimp only [Pt.U, Pt.locs, Pt.cells, Pt.slots] at X1 l1 y1 z1 st1 hQ1
  subst l1 y1 z1
  obtain ⟨rfl, N1q, e1⟩ := hQ1
  have Nf := Fr.app Nf N1q
  refine own_go (fun tQ kQ => st1 tQ kQ) ?_
  show own_End p e below _ (T1.setTop (mkF m 10 #[.val (.double (FP.l2d b)), .second, .val (.ref sx)] [(.int (0 : Int32))]))
  refine own_go (fun tQ kQ => XS.ifYes X1.here hx rfl (pc0 := 10) (pc' := 28) rfl (hb hby drq_10) rfl ((if0 _ _).trans (teq (by decide)).1) (by decide) (by decide) kQ) ?_
  show own_End p e below _ (T1.setTop (mkF m 28 #[.val (.double (FP.l2d b)), .second, .val (.ref sx)] []))
  obtain ⟨fs, hr, hrun, hended, hW, hsame⟩ := X1.leave (v := none) (fun _ => rfl)
  refine ⟨_, _, X1.returnOut hx Bd.returns (hb hby drq_28) hr, hrun, hended, _, _, rfl, ?_, ⟨_, rfl⟩, hW, hsame.mono (by decide) (by decide)⟩
  show Qrq Z b sx h0 n0 _ T1.heap _
  rw [e1]
  exact ⟨rfl, Nf, rfl⟩
theorem pd_5 : parseMethodDescriptor "()V" = some ⟨[], none⟩ := by decide +kernel
theorem pd_6 : parseMethodDescriptor "(DLjava/lang/String;)V" = some ⟨[.double, (.object "java/lang/String")], none⟩ := by decide +kernel
theorem dbi_0 : decode prog_35_method_1_code 0 = .ok (.aload_n 0, 1) := by decide +kernel
theorem dbi_1 : decode prog_35_method_1_code 1 = .ok (.invokespecial 1, 3) := by decide +kernel
theorem dbi_4 : decode prog_35_method_1_code 4 = .ok (.dload_n 1, 1) := by decide +kernel
theorem dbi_5 : decode prog_35_method_1_code 5 = .ok (.ldc 7, 2) := by decide +kernel
theorem dbi_7 : decode prog_35_method_1_code 7 = .ok (.invokestatic 9, 3) := by decide +kernel
theorem dbi_10 : decode prog_35_method_1_code 10 = .ok (.aload_n 0, 1) := by decide +kernel
theorem dbi_11 : decode prog_35_method_1_code 11 = .ok (.dload_n 1, 1) := by decide +kernel
theorem dbi_12 : decode prog_35_method_1_code 12 = .ok (.putfield 15, 3) := by decide +kernel
theorem dbi_15 : decode prog_35_method_1_code 15 = .ok (.return_, 1) := by decide +kernel
theorem pn_7 : plainName "com/example/tasks_to_slots/taskstoslots/model/Budget" = true := by first | (simp [plainName, overriddenIn]; done) | decide +kernel
theorem ef_bi (m : MethodId) (x0 : Addr) (x1 : UInt64) : entryFrame m #[(.ref x0), (.double x1)] 3 = mkF m 0 #[.val (.ref x0), .val (.double x1), .second] [] := by first | (simp [entryFrame, mkF, argsToLocals, Value.category]; done) | rfl
def Qbi (Z : State) (a : Addr) (b : Int64) (h0 : Heap) (n0 : Nat) (v : Option Value) (h : Heap) (L : List Loc) : Prop := v = none ∧ Fr n0 L ∧ Keep h0 h [a] ∧ Fld Z h a "com/example/tasks_to_slots/taskstoslots/model/Budget" "usd" "D" (.double (FP.l2d b))
def Pbi (Z : State) (a : Addr) (b : Int64) (h0 : Heap) (n0 : Nat) (s : State) (oQ : Outcome) (U : State) : Prop := ∃ v L, oQ = .returned v ∧ Qbi Z a b h0 n0 v U.heap L ∧ ReturnedEndW s oQ U L ({ frames := 3, cells := 2, slots := 28, locals := 40 } : Room).cells ({ frames := 3, cells := 2, slots := 28, locals := 40 } : Room).slots
set_option maxRecDepth 65536 in
set_option maxHeartbeats 40000000 in
theorem rmbi (l : Launch) (Z : State) (a0 : Array Value) (hw : ∀ d ∈ tables_1, d.before a0 Z = true) (ws : List Jvm.Cond) (a : Addr) (b : Int64) (h0 : Heap) (n0 : Nat) (Z0 : n0 ≤ h0.size) (hb0 : 0 ≤ b.toInt) (hb1 : b.toInt < 2147483648) (E_a : Exa Z h0 a "com/example/tasks_to_slots/taskstoslots/model/Budget") (F_usd_a : Fld Z h0 a "com/example/tasks_to_slots/taskstoslots/model/Budget" "usd" "D" (.double (0 : UInt64))) (g_a : n0 ≤ a) :
    MetFree l (⟨"com/example/tasks_to_slots/taskstoslots/model/Budget", "<init>", "(D)V"⟩ : MethodName) (head1 (Jvm.Cond.code (⟨"com/example/tasks_to_slots/taskstoslots/model/Budget", "<init>", "(D)V"⟩ : MethodName) prog_35_method_1_code 3 none :: ws) ({ frames := 3, cells := 2, slots := 28, locals := 40 } : Room)) (fun aQ U => aQ = #[(.ref a), (.double (FP.l2d b))] ∧ Z.Warmed39 U.vm ∧ U.heap = h0) (fun _ _ _ _ _ => True) (fun _ U oQ U' => ∃ v L, oQ = .returned v ∧ Qbi Z a b h0 n0 v U'.heap L ∧ ReturnedEndW U oQ U' L ({ frames := 3, cells := 2, slots := 28, locals := 40 } : Room).cells ({ frames := 3, cells := 2, slots := 28, locals := 40 } : Room).slots) := by
  refine MetFree.of_bodySF (plainFor_of_name pn_7) hisR ?_
  intro p e s m args below meth c s₁ Bd hml0 hP hK
  obtain ⟨rfl, hZ, hh⟩ := hP
  have hx := Bd.exec
  have hby := Bd.bytes
  have hml : c.maxLocals = 3 := hml0
  have hown : (s.setVm s.vm).vm.findClass "com/example/tasks_to_slots/taskstoslots/model/Budget" = some m.cls := findClass_of_methodNamed Bd.named
  have hZ : Z.Warmed39 (s.setVm s.vm).vm := hZ
  have hS : s.Since s.vm h0.size := (State.WarmedH.refl s).since _
  have hkW : h0.size ≤ h0.size := Nat.le_refl _
  have hnm := (name_of_methodNamed Bd.named Bd.method).1
  have X0 : Stand p l e ({ frames := 3, cells := 2, slots := 28, locals := 40 } : Room) (s.setVm s.vm) m #[(.ref a), (.double (FP.l2d b))] below meth c s₁ [] 0 0 := Stand.of_body Bd
  have e0 : s₁.heap = h0 := by rw [← hh, Bd.state]; rfl
  have Nf := Fr.nil n0
  have Zs : n0 ≤ h0.size := Z0
  have Kp : Keep h0 h0 [a] := Keep.refl _ _
  have szr : h0.size ≤ h0.size := Nat.le_refl _
  show own_End p e below (Pbi Z a b h0 n0 s) (s₁.setTop (entryFrame m #[(.ref a), (.double (FP.l2d b))] 3))
  rw [ef_bi]
  have wS : ∀ d ∈ Bundle.stringAtoms, d.before a0 Z = true := by
    intro d hd
    simp only [Bundle.stringAtoms, List.mem_cons, List.not_mem_nil, or_false] at hd
    rcases hd with rfl | rfl | rfl | rfl | rfl | rfl | rfl
    · exact (hw _ (List.mem_of_getElem? (i := 16) rfl))
    · exact (hw _ (List.mem_of_getElem? (i := 17) rfl))
    · exact (hw _ (List.mem_of_getElem? (i := 18) rfl))
    · exact (hw _ (List.mem_of_getElem? (i := 19) rfl))
    · exact (hw _ (List.mem_of_getElem? (i := 20) rfl))
    · exact (hw _ (List.mem_of_getElem? (i := 21) rfl))
    · exact (hw _ (List.mem_of_getElem? (i := 22) rfl))
  refine own_go (fun tQ kQ => XS.aloadN X0.here hx rfl (hb hby dbi_0) rfl rfl kQ) ?_
  show own_End p e below _ (s₁.setTop (mkF m 1 #[.val (.ref a), .val (.double (FP.l2d b)), .second] [(.ref a)]))
  obtain ⟨_, _, ⟨T1, L1, k1, n1⟩, -, X1, ⟨Lc1, hQ1, l1, y1, z1⟩, st1⟩ := X0.specialBack hx (y := (⟨"java/lang/Record", "<init>", "()V"⟩ : MethodName)) rfl hown (mvT hZ (hw _ (List.mem_of_getElem? (i := 7) rfl))) (mvT hZ (hw _ (List.mem_of_getElem? (i := 8) rfl))) (mvT hZ (hw _ (List.mem_of_getElem? (i := 11) rfl))) (by decide) (backOf (W := 0) (rmR l Z a0 hw [] a h0 n0 Zs ) hZ (hw _ (List.mem_of_getElem? (i := 11) rfl)) (hw _ (List.mem_of_getElem? (i := 10) rfl)) (by decide) (by decide)) (g := (mkF m 1 #[.val (.ref a), .val (.double (FP.l2d b)), .second] [(.ref a)])) rfl (by rw [hml]; rfl) (Steps.refl _) (a := a) (argsL := []) (rest := []) (lenOf pd_5 rfl) rfl (by show 2 * 0 + _ ≤ _; exact Nat.le_of_eq rfl) (hb hby dbi_1) (fun _ _ => ⟨rfl, e0, (Nat.le_of_ble_eq_true rfl), (Nat.le_of_ble_eq_true rfl)⟩)
  dsimp only [Pt.U, Pt.locs, Pt.cells, Pt.slots] at X1 l1 y1 z1 st1 hQ1
  subst l1 y1 z1
  obtain ⟨rfl, N1q, e1⟩ := hQ1
  have Nf := Fr.app Nf N1q
  refine own_go (fun tQ kQ => st1.trans kQ) ?_
  show own_End p e below _ (T1.setTop (mkF m 4 #[.val (.ref a), .val (.double (FP.l2d b)), .second] []))
  refine own_go (fun tQ kQ => XS.dloadN X1.here hx rfl (hb hby dbi_4) rfl kQ) ?_
  show own_End p e below _ (T1.setTop (mkF m 5 #[.val (.ref a), .val (.double (FP.l2d b)), .second] [(.double (FP.l2d b))]))
  obtain ⟨sx, T2, h2, k2, X2, e2, E2, hS, hkW, hZ, hown, st2⟩ := ldcS X1 hx hZ hown (hw _ (List.mem_of_getElem? (i := 15) rfl)) wS e1 hS hkW (g := (mkF m 5 #[.val (.ref a), .val (.double (FP.l2d b)), .second] [(.double (FP.l2d b))])) rfl (hb hby dbi_5) (n := 24) (by decide) (by decide) (by decide) (by decide)
  have E_a := E_a.ext E2
  have F_usd_a := F_usd_a.ext E2
  have Kp := Kp.ext E2
  have Zs := Nat.le_trans Zs E2.1
  have szr := Nat.le_trans szr E2.1
  refine own_go (fun tQ kQ => st2 tQ kQ) ?_
  show own_End p e below _ (T2.setTop (mkF m 7 #[.val (.ref a), .val (.double (FP.l2d b)), .second] [(.ref sx), (.double (FP.l2d b))]))
  obtain ⟨_, _, ⟨T3, L3, k3, n3⟩, -, X3, ⟨Lc3, hQ3, l3, y3, z3⟩, st3⟩ := Jvm.LawKit.callS X2 hx (y := (⟨"com/example/tasks_to_slots/taskstoslots/model/Checks", "requireNonNegative", "(DLjava/lang/String;)V"⟩ : MethodName)) hown (mvT hZ (hw _ (List.mem_of_getElem? (i := 23) rfl))) (mvT hZ (hw _ (List.mem_of_getElem? (i := 24) rfl))) (mvT hZ (hw _ (List.mem_of_getElem? (i := 25) rfl))) (mvT hZ (hw _ (List.mem_of_getElem? (i := 26) rfl))) (by decide) (backOf (W := 0) (rmrq l Z a0 hw [] b sx h2 n0 Zs hb0 hb1) hZ (hw _ (List.mem_of_getElem? (i := 26) rfl)) (hw _ (List.mem_of_getElem? (i := 25) rfl)) (by decide) (by decide)) (g := (mkF m 7 #[.val (.ref a), .val (.double (FP.l2d b)), .second] [(.ref sx), (.double (FP.l2d b))])) rfl (by rw [hml]; rfl) (argsL := [(.double (FP.l2d b)), (.ref sx)]) (rest := []) (lenOf pd_6 rfl) rfl (by show 2 * 0 + _ ≤ _; exact Nat.le_of_eq rfl) (hb hby dbi_7) (fun _ _ => ⟨rfl, e2, (Nat.le_of_ble_eq_true rfl), (Nat.le_of_ble_eq_true rfl)⟩)
  dsimp only [Pt.U, Pt.locs, Pt.cells, Pt.slots] at X3 l3 y3 z3 st3 hQ3
  subst l3 y3 z3
  obtain ⟨rfl, N3q, e3⟩ := hQ3
  have Nf := Fr.app Nf N3q
  refine own_go (fun tQ kQ => st3 tQ kQ) ?_
  show own_End p e below _ (T3.setTop (mkF m 10 #[.val (.ref a), .val (.double (FP.l2d b)), .second] []))
  refine own_go (fun tQ kQ => XS.aloadN X3.here hx rfl (hb hby dbi_10) rfl rfl kQ) ?_
  show own_End p e below _ (T3.setTop (mkF m 11 #[.val (.ref a), .val (.double (FP.l2d b)), .second] [(.ref a)]))
  refine own_go (fun tQ kQ => XS.dloadN X3.here hx rfl (hb hby dbi_11) rfl kQ) ?_
  show own_End p e below _ (T3.setTop (mkF m 12 #[.val (.ref a), .val (.double (FP.l2d b)), .second] [(.double (FP.l2d b)), (.ref a)]))
  obtain ⟨T4, h4, X4, e4, W4, st4⟩ := putF X3 hx hZ hown (host := "") (Or.inl (hw _ (List.mem_of_getElem? (i := 36) rfl))) Via.refl e3 F_usd_a E_a (Or.inr ⟨(hw _ (List.mem_of_getElem? (i := 37) rfl)), rfl, hnm⟩) (hw _ (List.mem_of_getElem? (i := 2) rfl)) (ty := .double) (by decide) rfl rfl (g := (mkF m 12 #[.val (.ref a), .val (.double (FP.l2d b)), .second] [(.double (FP.l2d b)), (.ref a)])) rfl rfl (hb hby dbi_12)
  have F_usd_a := F_usd_a.same W4
  have E_a := E_a.wr W4
  have Kp := Kp.wr W4 (Or.inl (List.mem_of_getElem? (i := 0) rfl))
  have Nf := Fr.snoc X4 Nf g_a
  have Zs := Nat.le_trans Zs (Keep.of_wr W4).1
  have szr := Nat.le_trans szr (Keep.of_wr W4).1
  have hkW := Nat.le_trans hkW (Keep.of_wr W4).1
  refine own_go (fun tQ kQ => st4 tQ kQ) ?_
  show own_End p e below _ (T4.setTop (mkF m 15 #[.val (.ref a), .val (.double (FP.l2d b)), .second] []))
  obtain ⟨fs, hr, hrun, hended, hend⟩ := X4.leaveW hS (by rw [e4]; exact hkW) (v := none) (fun _ => rfl)
  refine ⟨_, _, X4.returnOut hx Bd.returns (hb hby dbi_15) hr, hrun, hended, _, _, rfl, ?_, ⟨hend.1, hend.2.1, hend.2.2.1, hend.2.2.2.mono (by decide) (by decide)⟩⟩
  show Qbi Z a b h0 n0 _ T4.heap _
  rw [e4]
  exact ⟨rfl, Nf, Kp, F_usd_a⟩
theorem dcv_0 : decode prog_35_method_2_code 0 = .ok (.dload_n 1, 1) := by decide +kernel
theorem dcv_1 : decode prog_35_method_2_code 1 = .ok (.aload_n 0, 1) := by decide +kernel
theorem dcv_2 : decode prog_35_method_2_code 2 = .ok (.getfield 15, 3) := by decide +kernel
theorem dcv_5 : decode prog_35_method_2_code 5 = .ok (.ldc2_w 23, 3) := by decide +kernel
theorem dcv_8 : decode prog_35_method_2_code 8 = .ok (.dmul, 1) := by decide +kernel
theorem dcv_9 : decode prog_35_method_2_code 9 = .ok (.dcmp .g, 1) := by decide +kernel
theorem dcv_10 : decode prog_35_method_2_code 10 = .ok (.ifCond .gt 7, 3) := by decide +kernel
theorem dcv_13 : decode prog_35_method_2_code 13 = .ok (.iconst 1, 1) := by decide +kernel
theorem dcv_14 : decode prog_35_method_2_code 14 = .ok (.goto 4, 3) := by decide +kernel
theorem dcv_17 : decode prog_35_method_2_code 17 = .ok (.iconst 0, 1) := by decide +kernel
theorem dcv_18 : decode prog_35_method_2_code 18 = .ok (.ireturn, 1) := by decide +kernel
theorem ef_cv (m : MethodId) (x0 : Addr) (x1 : UInt64) : entryFrame m #[(.ref x0), (.double x1)] 3 = mkF m 0 #[.val (.ref x0), .val (.double x1), .second] [] := by first | (simp [entryFrame, mkF, argsToLocals, Value.category]; done) | rfl
def Qcv (Z : State) (a : Addr) (b : Int64) (cc : Int32) (h0 : Heap) (n0 : Nat) (v : Option Value) (h : Heap) (L : List Loc) : Prop := v = some (.int (own_cov b cc)) ∧ Fr n0 L ∧ h = h0
def Pcv (Z : State) (a : Addr) (b : Int64) (cc : Int32) (h0 : Heap) (n0 : Nat) (s : State) (oQ : Outcome) (U : State) : Prop := ∃ v L, oQ = .returned v ∧ Qcv Z a b cc h0 n0 v U.heap L ∧ FrameEnd s oQ U L ({ frames := 0, cells := 0, slots := 0, locals := 0 } : Room).cells ({ frames := 0, cells := 0, slots := 0, locals := 0 } : Room).slots
set_option maxRecDepth 65536 in
set_option maxHeartbeats 40000000 in
theorem rmcv (l : Launch) (Z : State) (a0 : Array Value) (hw : ∀ d ∈ tables_1, d.before a0 Z = true) (ws : List Jvm.Cond) (a : Addr) (b : Int64) (cc : Int32) (h0 : Heap) (n0 : Nat) (Z0 : n0 ≤ h0.size) (F_usd_a : Fld Z h0 a "com/example/tasks_to_slots/taskstoslots/model/Budget" "usd" "D" (.double (FP.l2d b))) :
    MetFree l (⟨"com/example/tasks_to_slots/taskstoslots/model/Budget", "covers", "(D)Z"⟩ : MethodName) (head1 (Jvm.Cond.code (⟨"com/example/tasks_to_slots/taskstoslots/model/Budget", "covers", "(D)Z"⟩ : MethodName) prog_35_method_2_code 3 (some .boolean) :: ws) ({ frames := 0, cells := 0, slots := 0, locals := 0 } : Room)) (fun aQ U => aQ = #[(.ref a), (.double (FP.i2d cc))] ∧ Z.Warmed39 U.vm ∧ U.heap = h0) (fun _ _ _ _ _ => True) (fun _ U oQ U' => ∃ v L, oQ = .returned v ∧ Qcv Z a b cc h0 n0 v U'.heap L ∧ FrameEnd U oQ U' L ({ frames := 0, cells := 0, slots := 0, locals := 0 } : Room).cells ({ frames := 0, cells := 0, slots := 0, locals := 0 } : Room).slots) := by
  refine MetFree.of_bodySF (plainFor_of_name pn_7) hisR ?_
  intro p e s m args below meth c s₁ Bd hml0 hP hK
  obtain ⟨rfl, hZ, hh⟩ := hP
  have hx := Bd.exec
  have hby := Bd.bytes
  have hml : c.maxLocals = 3 := hml0
  have hown : s.vm.findClass "com/example/tasks_to_slots/taskstoslots/model/Budget" = some m.cls := findClass_of_methodNamed Bd.named
  have hnm := (name_of_methodNamed Bd.named Bd.method).1
  have X0 : Stand p l e ({ frames := 0, cells := 0, slots := 0, locals := 0 } : Room) s m #[(.ref a), (.double (FP.i2d cc))] below meth c s₁ [] 0 0 := Stand.of_body Bd
  have e0 : s₁.heap = h0 := by rw [← hh, Bd.state]; rfl
  have Nf := Fr.nil n0
  have Zs : n0 ≤ h0.size := Z0
  have Kp : Keep h0 h0 [] := Keep.refl _ _
  have szr : h0.size ≤ h0.size := Nat.le_refl _
  show own_End p e below (Pcv Z a b cc h0 n0 s) (s₁.setTop (entryFrame m #[(.ref a), (.double (FP.i2d cc))] 3))
  rw [ef_cv]
  refine own_go (fun tQ kQ => XS.dloadN X0.here hx rfl (hb hby dcv_0) rfl kQ) ?_
  show own_End p e below _ (s₁.setTop (mkF m 1 #[.val (.ref a), .val (.double (FP.i2d cc)), .second] [(.double (FP.i2d cc))]))
  refine own_go (fun tQ kQ => XS.aloadN X0.here hx rfl (hb hby dcv_1) rfl rfl kQ) ?_
  show own_End p e below _ (s₁.setTop (mkF m 2 #[.val (.ref a), .val (.double (FP.i2d cc)), .second] [(.ref a), (.double (FP.i2d cc))]))
  obtain ⟨T1, X1, e1, st1⟩ := getF X0 hx hZ hown (host := "") (Or.inl (hw _ (List.mem_of_getElem? (i := 36) rfl))) Via.refl e0 F_usd_a (g := (mkF m 2 #[.val (.ref a), .val (.double (FP.i2d cc)), .second] [(.ref a), (.double (FP.i2d cc))])) rfl rfl (hb hby dcv_2)
  refine own_go (fun tQ kQ => st1 tQ kQ) ?_
  show own_End p e below _ (T1.setTop (mkF m 5 #[.val (.ref a), .val (.double (FP.i2d cc)), .second] [(.double (FP.l2d b)), (.double (FP.i2d cc))]))
  refine own_go (fun tQ kQ => X1.ldc2DoubleC hx hown (mvT hZ (hw _ (List.mem_of_getElem? (i := 43) rfl))) (g := (mkF m 5 #[.val (.ref a), .val (.double (FP.i2d cc)), .second] [(.double (FP.l2d b)), (.double (FP.i2d cc))])) rfl (hb hby dcv_5) _ kQ) ?_
  show own_End p e below _ (T1.setTop (mkF m 8 #[.val (.ref a), .val (.double (FP.i2d cc)), .second] [(.double (4607182418804521008 : UInt64)), (.double (FP.l2d b)), (.double (FP.i2d cc))]))
  refine own_go (fun tQ kQ => XS.dmulS X1.here hx rfl (hb hby dcv_8) rfl (own_mnn b) rfl kQ) ?_
  show own_End p e below _ (T1.setTop (mkF m 9 #[.val (.ref a), .val (.double (FP.i2d cc)), .second] [(.double (FP.dmul (FP.l2d b) (4607182418804521008 : UInt64))), (.double (FP.i2d cc))]))
  refine own_go (fun tQ kQ => XS.dcmpS X1.here hx rfl (hb hby dcv_9) rfl rfl kQ) ?_
  show own_End p e below _ (T1.setTop (mkF m 10 #[.val (.ref a), .val (.double (FP.i2d cc)), .second] [(.int (cmpValue (FP.dcmp (FP.i2d cc) (FP.dmul (FP.l2d b) (4607182418804521008 : UInt64))) .g))]))
  by_cases hc10 : (0 : Int32) < (cmpValue (FP.dcmp (FP.i2d cc) (FP.dmul (FP.l2d b) (4607182418804521008 : UInt64))) .g)
  ·
    refine own_go (fun tQ kQ => XS.ifYes X1.here hx rfl (pc0 := 10) (pc' := 17) rfl (hb hby dcv_10) rfl ((if0 _ _).trans (tlt hc10).2.2.1) (by decide) (by decide) kQ) ?_
    show own_End p e below _ (T1.setTop (mkF m 17 #[.val (.ref a), .val (.double (FP.i2d cc)), .second] []))
    refine own_go (fun tQ kQ => XS.iconst X1.here hx rfl (hb hby dcv_17) kQ) ?_
    show own_End p e below _ (T1.setTop (mkF m 18 #[.val (.ref a), .val (.double (FP.i2d cc)), .second] [(.int (0 : Int32))]))
    obtain ⟨fs, hr, hrun, hended, hW, hsame⟩ := X1.leave (v := some (.int (0 : Int32))) (fun h => by rw [Bd.returns] at h; cases h)
    refine ⟨_, _, (retN X1 hx (t := .boolean) Bd.returns (by simp) (hb hby dcv_18) hr), hrun, hended, _, _, rfl, ?_, ⟨_, rfl⟩, hW, hsame.mono (by decide) (by decide)⟩
    show Qcv Z a b cc h0 n0 _ T1.heap _
    rw [e1]
    exact ⟨by simp [own_cov, hc10], Nf, rfl⟩
  ·
    refine own_go (fun tQ kQ => XS.ifNo X1.here hx rfl (hb hby dcv_10) rfl ((if0 _ _).trans (flt hc10).2.2.1) kQ) ?_
    show own_End p e below _ (T1.setTop (mkF m 13 #[.val (.ref a), .val (.double (FP.i2d cc)), .second] []))
    refine own_go (fun tQ kQ => XS.iconst X1.here hx rfl (hb hby dcv_13) kQ) ?_
    show own_End p e below _ (T1.setTop (mkF m 14 #[.val (.ref a), .val (.double (FP.i2d cc)), .second] [(.int (1 : Int32))]))
    refine own_go (fun tQ kQ => XS.goto X1.here hx rfl (pc0 := 14) (pc' := 18) rfl (hb hby dcv_14) (by decide) (by decide) kQ) ?_
    show own_End p e below _ (T1.setTop (mkF m 18 #[.val (.ref a), .val (.double (FP.i2d cc)), .second] [(.int (1 : Int32))]))
    obtain ⟨fs, hr, hrun, hended, hW, hsame⟩ := X1.leave (v := some (.int (1 : Int32))) (fun h => by rw [Bd.returns] at h; cases h)
    refine ⟨_, _, (retN X1 hx (t := .boolean) Bd.returns (by simp) (hb hby dcv_18) hr), hrun, hended, _, _, rfl, ?_, ⟨_, rfl⟩, hW, hsame.mono (by decide) (by decide)⟩
    show Qcv Z a b cc h0 n0 _ T1.heap _
    rw [e1]
    exact ⟨by simp [own_cov, hc10], Nf, rfl⟩
theorem pd_8 : parseMethodDescriptor "(D)V" = some ⟨[.double], none⟩ := by decide +kernel
theorem pn_9 : plainName "com/example/tasks_to_slots/taskstoslots/model/BudgetCoversPinLaw" = true := by first | (simp [plainName, overriddenIn]; done) | decide +kernel
theorem ef_0 (m : MethodId) (x0 : Int32) (x1 : Int32) : entryFrame m #[(.int x0), (.int x1)] maxLocals = mkF m 0 #[.val (.int x0), .val (.int x1), .unset, .unset, .unset, .unset, .unset, .unset, .unset, .unset, .unset, .unset] [] := by first | (simp [entryFrame, mkF, argsToLocals, Value.category, maxLocals]; done) | rfl
def Q0 (Z : State) (i0 : Int32) (i1 : Int32) (h0 : Heap) (n0 : Nat) (v : Option Value) (h : Heap) (L : List Loc) : Prop := v = some (.int 1) ∧ Fr n0 L
def P0 (Z : State) (i0 : Int32) (i1 : Int32) (h0 : Heap) (n0 : Nat) (s : State) (oQ : Outcome) (U : State) : Prop := ∃ v L, oQ = .returned v ∧ Q0 Z i0 i1 h0 n0 v U.heap L ∧ ReturnedEndW s oQ U L 3 29
set_option maxRecDepth 65536 in
set_option maxHeartbeats 40000000 in
theorem rm0 (l : Launch) (Z : State) (a0 : Array Value) (hw : ∀ d ∈ tables_1, d.before a0 Z = true) (ws : List Jvm.Cond) (i0 : Int32) (i1 : Int32) (h0 : Heap) (n0 : Nat) (Z0 : n0 ≤ h0.size)  :
    MetFree l x (head1 (Jvm.Cond.code x code maxLocals ret :: ws) room_1) (fun aQ U => aQ = #[(.int i0), (.int i1)] ∧ Z.Warmed39 U.vm ∧ U.heap = h0) (fun _ _ _ _ _ => True) (fun _ U oQ U' => ∃ v L, oQ = .returned v ∧ Q0 Z i0 i1 h0 n0 v U'.heap L ∧ ReturnedEndW U oQ U' L 3 29) := by
  refine MetFree.of_bodySF (plainFor_of_name pn_9) hisR ?_
  intro p e s m args below meth c s₁ Bd hml0 hP hK
  obtain ⟨rfl, hZ, hh⟩ := hP
  have hx := Bd.exec
  have hby := Bd.bytes
  have hml : c.maxLocals = 12 := hml0
  have hown : (s.setVm s.vm).vm.findClass "com/example/tasks_to_slots/taskstoslots/model/BudgetCoversPinLaw" = some m.cls := findClass_of_methodNamed Bd.named
  have hZ : Z.Warmed39 (s.setVm s.vm).vm := hZ
  have hS : s.Since s.vm h0.size := (State.WarmedH.refl s).since _
  have hkW : h0.size ≤ h0.size := Nat.le_refl _
  have hnm := (name_of_methodNamed Bd.named Bd.method).1
  have X0 : Stand p l e room_1 (s.setVm s.vm) m #[(.int i0), (.int i1)] below meth c s₁ [] 0 0 := Stand.of_body Bd
  have e0 : s₁.heap = h0 := by rw [← hh, Bd.state]; rfl
  have Nf := Fr.nil n0
  have Zs : n0 ≤ h0.size := Z0
  have Kp : Keep h0 h0 [] := Keep.refl _ _
  have szr : h0.size ≤ h0.size := Nat.le_refl _
  show own_End p e below (P0 Z i0 i1 h0 n0 s) (s₁.setTop (entryFrame m #[(.int i0), (.int i1)] maxLocals))
  rw [ef_0]
  refine own_go (fun tQ kQ => XS.iloadN X0.here hx rfl (hb hby at_0) rfl kQ) ?_
  show own_End p e below _ (s₁.setTop (mkF m 1 #[.val (.int i0), .val (.int i1), .unset, .unset, .unset, .unset, .unset, .unset, .unset, .unset, .unset, .unset] [(.int i0)]))
  refine own_go (fun tQ kQ => XS.i2l X0.here hx rfl (hb hby at_1) rfl kQ) ?_
  show own_End p e below _ (s₁.setTop (mkF m 2 #[.val (.int i0), .val (.int i1), .unset, .unset, .unset, .unset, .unset, .unset, .unset, .unset, .unset, .unset] [(.long (i0.toInt64))]))
  refine own_go (fun tQ kQ => X0.ldc2Long hx hown (mvT hZ (hw _ (List.mem_of_getElem? (i := 0) rfl))) (g := (mkF m 2 #[.val (.int i0), .val (.int i1), .unset, .unset, .unset, .unset, .unset, .unset, .unset, .unset, .unset, .unset] [(.long (i0.toInt64))])) rfl (hb hby at_2) _ kQ) ?_
  show own_End p e below _ (s₁.setTop (mkF m 5 #[.val (.int i0), .val (.int i1), .unset, .unset, .unset, .unset, .unset, .unset, .unset, .unset, .unset, .unset] [(.long (2147483647 : Int64)), (.long (i0.toInt64))]))
  refine own_go (fun tQ kQ => XS.land X0.here hx rfl (hb hby at_5) rfl kQ) ?_
  show own_End p e below _ (s₁.setTop (mkF m 6 #[.val (.int i0), .val (.int i1), .unset, .unset, .unset, .unset, .unset, .unset, .unset, .unset, .unset, .unset] [(.long ((i0.toInt64) &&& (2147483647 : Int64)))]))
  refine own_go (fun tQ kQ => XS.lstoreN X0.here hx rfl (hb hby at_6) rfl (l' := #[.val (.int i0), .val (.int i1), .val (.long ((i0.toInt64) &&& (2147483647 : Int64))), .second, .unset, .unset, .unset, .unset, .unset, .unset, .unset, .unset]) rfl kQ) ?_
  show own_End p e below _ (s₁.setTop (mkF m 7 #[.val (.int i0), .val (.int i1), .val (.long ((i0.toInt64) &&& (2147483647 : Int64))), .second, .unset, .unset, .unset, .unset, .unset, .unset, .unset, .unset] []))
  have hb0 := (own_mask i0).1
  have hb1 := (own_mask i0).2
  generalize ((i0.toInt64) &&& (2147483647 : Int64)) = b at hb0 hb1 ⊢
  show own_End p e below _ (s₁.setTop (mkF m 7 #[.val (.int i0), .val (.int i1), .val (.long b), .second, .unset, .unset, .unset, .unset, .unset, .unset, .unset, .unset] []))
  refine own_go (fun tQ kQ => XS.iloadN X0.here hx rfl (hb hby at_7) rfl kQ) ?_
  show own_End p e below _ (s₁.setTop (mkF m 8 #[.val (.int i0), .val (.int i1), .val (.long b), .second, .unset, .unset, .unset, .unset, .unset, .unset, .unset, .unset] [(.int i1)]))
  refine own_go (fun tQ kQ => XS.i2l X0.here hx rfl (hb hby at_8) rfl kQ) ?_
  show own_End p e below _ (s₁.setTop (mkF m 9 #[.val (.int i0), .val (.int i1), .val (.long b), .second, .unset, .unset, .unset, .unset, .unset, .unset, .unset, .unset] [(.long (i1.toInt64))]))
  refine own_go (fun tQ kQ => XS.lstore X0.here hx rfl (hb hby at_9) rfl (l' := #[.val (.int i0), .val (.int i1), .val (.long b), .second, .val (.long (i1.toInt64)), .second, .unset, .unset, .unset, .unset, .unset, .unset]) rfl kQ) ?_
  show own_End p e below _ (s₁.setTop (mkF m 11 #[.val (.int i0), .val (.int i1), .val (.long b), .second, .val (.long (i1.toInt64)), .second, .unset, .unset, .unset, .unset, .unset, .unset] []))
  obtain ⟨T1, h1, X1, e1, E1, A1, D1, -, st1⟩ := newO X0 hx hZ hown (hw _ (List.mem_of_getElem? (i := 1) rfl)) (hw _ (List.mem_of_getElem? (i := 2) rfl)) (hw _ (List.mem_of_getElem? (i := 3) rfl)) e0 (g := (mkF m 11 #[.val (.int i0), .val (.int i1), .val (.long b), .second, .val (.long (i1.toInt64)), .second, .unset, .unset, .unset, .unset, .unset, .unset] [])) rfl (hb hby at_11) (by decide) (by decide)
  obtain ⟨o, g1⟩ : ∃ z, z = h0.size := ⟨_, rfl⟩
  rw [← g1] at A1 D1 st1
  have g_o : n0 ≤ o := Nat.le_trans Zs (Nat.le_of_eq g1.symm)
  have sz_o : h0.size ≤ o := Nat.le_trans szr (Nat.le_of_eq g1.symm)
  have Kp := Kp.ext E1
  have Zs := Nat.le_trans Zs E1.1
  have szr := Nat.le_trans szr E1.1
  have hkW := Nat.le_trans hkW E1.1
  have E_o := A1
  have F_usd_o : Fld Z h1 o "com/example/tasks_to_slots/taskstoslots/model/Budget" "usd" "D" (.double (0 : UInt64)) := D1 (Or.inr (hw _ (List.mem_of_getElem? (i := 37) rfl))) (ty := .double) (by decide)
  refine own_go (fun tQ kQ => st1 tQ kQ) ?_
  show own_End p e below _ (T1.setTop (mkF m 14 #[.val (.int i0), .val (.int i1), .val (.long b), .second, .val (.long (i1.toInt64)), .second, .unset, .unset, .unset, .unset, .unset, .unset] [(.ref o)]))
  refine own_go (fun tQ kQ => XS.dup X1.here hx rfl (hb hby at_14) rfl rfl kQ) ?_
  show own_End p e below _ (T1.setTop (mkF m 15 #[.val (.int i0), .val (.int i1), .val (.long b), .second, .val (.long (i1.toInt64)), .second, .unset, .unset, .unset, .unset, .unset, .unset] [(.ref o), (.ref o)]))
  refine own_go (fun tQ kQ => XS.lloadN X1.here hx rfl (hb hby at_15) rfl kQ) ?_
  show own_End p e below _ (T1.setTop (mkF m 16 #[.val (.int i0), .val (.int i1), .val (.long b), .second, .val (.long (i1.toInt64)), .second, .unset, .unset, .unset, .unset, .unset, .unset] [(.long b), (.ref o), (.ref o)]))
  refine own_go (fun tQ kQ => XS.l2dS X1.here hx rfl (hb hby at_16) rfl rfl kQ) ?_
  show own_End p e below _ (T1.setTop (mkF m 17 #[.val (.int i0), .val (.int i1), .val (.long b), .second, .val (.long (i1.toInt64)), .second, .unset, .unset, .unset, .unset, .unset, .unset] [(.double (FP.l2d b)), (.ref o), (.ref o)]))
  obtain ⟨_, _, ⟨T2, L2, k2, n2⟩, -, X2, S2, G2, ⟨Lc2, hQ2, l2, y2, z2⟩, st2⟩ := X1.specialBackS hx (y := (⟨"com/example/tasks_to_slots/taskstoslots/model/Budget", "<init>", "(D)V"⟩ : MethodName)) rfl hown (mvT hZ (hw _ (List.mem_of_getElem? (i := 4) rfl))) (mvT hZ (hw _ (List.mem_of_getElem? (i := 5) rfl))) (mvT hZ (hw _ (List.mem_of_getElem? (i := 6) rfl))) (by decide) (backOfS (W := 1) (rmbi l Z a0 hw [] o b h1 n0 Zs hb0 hb1 E_o F_usd_o g_o) hZ (hw _ (List.mem_of_getElem? (i := 6) rfl)) (hw _ (List.mem_of_getElem? (i := 3) rfl)) (by decide) (by decide)) (g := (mkF m 17 #[.val (.int i0), .val (.int i1), .val (.long b), .second, .val (.long (i1.toInt64)), .second, .unset, .unset, .unset, .unset, .unset, .unset] [(.double (FP.l2d b)), (.ref o), (.ref o)])) rfl (by rw [hml]; rfl) (Steps.refl _) (a := o) (argsL := [(.double (FP.l2d b))]) (rest := [(.ref o)]) (lenOf pd_8 rfl) rfl (by show 2 * 0 + _ ≤ _; exact Nat.le_of_eq rfl) (hb hby at_17) (fun _ _ => ⟨rfl, e1, (Nat.le_of_ble_eq_true rfl), (Nat.le_of_ble_eq_true rfl)⟩)
  dsimp only [Pt.U, Pt.locs, Pt.cells, Pt.slots] at X2 l2 y2 z2 st2 hQ2 S2 G2
  subst l2 y2 z2
  obtain ⟨X2, hS, hZ, hown⟩ := rebS hS (by rw [e1]; exact hkW) X2 S2 G2 hZ hown
  have hkW : T2.heap.size ≤ T2.heap.size := Nat.le_refl _
  obtain ⟨rfl, N2q, K2, F_usd_o⟩ := hQ2
  have Nf := Fr.app Nf N2q
  have E_o := E_o.keep K2
  have Kp := Kp.trans K2 (allS (Or.inr sz_o) all0)
  have Zs := Nat.le_trans Zs K2.1
  have szr := Nat.le_trans szr K2.1
  refine own_go (fun tQ kQ => st2.trans kQ) ?_
  show own_End p e below _ (T2.setTop (mkF m 20 #[.val (.int i0), .val (.int i1), .val (.long b), .second, .val (.long (i1.toInt64)), .second, .unset, .unset, .unset, .unset, .unset, .unset] [(.ref o)]))
  refine own_go (fun tQ kQ => XS.astore X2.here hx rfl (hb hby at_20) rfl rfl (l' := #[.val (.int i0), .val (.int i1), .val (.long b), .second, .val (.long (i1.toInt64)), .second, .val (.ref o), .unset, .unset, .unset, .unset, .unset]) rfl kQ) ?_
  show own_End p e below _ (T2.setTop (mkF m 22 #[.val (.int i0), .val (.int i1), .val (.long b), .second, .val (.long (i1.toInt64)), .second, .val (.ref o), .unset, .unset, .unset, .unset, .unset] []))
  refine own_go (fun tQ kQ => XS.aload X2.here hx rfl (hb hby at_22) rfl rfl kQ) ?_
  show own_End p e below _ (T2.setTop (mkF m 24 #[.val (.int i0), .val (.int i1), .val (.long b), .second, .val (.long (i1.toInt64)), .second, .val (.ref o), .unset, .unset, .unset, .unset, .unset] [(.ref o)]))
  refine own_go (fun tQ kQ => XS.iloadN X2.here hx rfl (hb hby at_24) rfl kQ) ?_
  show own_End p e below _ (T2.setTop (mkF m 25 #[.val (.int i0), .val (.int i1), .val (.long b), .second, .val (.long (i1.toInt64)), .second, .val (.ref o), .unset, .unset, .unset, .unset, .unset] [(.int i1), (.ref o)]))
  refine own_go (fun tQ kQ => XS.i2dS X2.here hx rfl (hb hby at_25) rfl rfl kQ) ?_
  show own_End p e below _ (T2.setTop (mkF m 26 #[.val (.int i0), .val (.int i1), .val (.long b), .second, .val (.long (i1.toInt64)), .second, .val (.ref o), .unset, .unset, .unset, .unset, .unset] [(.double (FP.i2d i1)), (.ref o)]))
  obtain ⟨cq3, kq3, q3a, q3b, q3c⟩ := isOf hZ rfl E_o
  obtain ⟨_, _, ⟨T3, L3, k3, n3⟩, -, X3, ⟨Lc3, hQ3, l3, y3, z3⟩, st3⟩ := X2.virtualBack hx (y := (⟨"com/example/tasks_to_slots/taskstoslots/model/Budget", "covers", "(D)Z"⟩ : MethodName)) (z := (⟨"com/example/tasks_to_slots/taskstoslots/model/Budget", "covers", "(D)Z"⟩ : MethodName)) hown (mvT hZ (hw _ (List.mem_of_getElem? (i := 38) rfl))) (mvT hZ (hw _ (List.mem_of_getElem? (i := 39) rfl))) (notFace_of_selects (args := #[]) (mvT hZ (hw _ (List.mem_of_getElem? (i := 41) rfl)))) (mvT hZ (hw _ (List.mem_of_getElem? (i := 41) rfl))) (mvT hZ (hw _ (List.mem_of_getElem? (i := 40) rfl))) (by decide) (backOf (W := 0) (rmcv l Z a0 hw [] o b i1 T2.heap n0 Zs F_usd_o) hZ (hw _ (List.mem_of_getElem? (i := 42) rfl)) (hw _ (List.mem_of_getElem? (i := 3) rfl)) (by decide) (by decide)) q3a q3c (g := (mkF m 26 #[.val (.int i0), .val (.int i1), .val (.long b), .second, .val (.long (i1.toInt64)), .second, .val (.ref o), .unset, .unset, .unset, .unset, .unset] [(.double (FP.i2d i1)), (.ref o)])) rfl (by rw [hml]; rfl) (Steps.refl _) (argsL := [(.double (FP.i2d i1))]) (rest := []) (lenOf pd_3 rfl) rfl (by show 2 * 0 + _ ≤ _; exact Nat.le_of_eq rfl) (hb hby at_26) (fun _ _ => ⟨rfl, rfl, (Nat.le_of_ble_eq_true rfl), (Nat.le_of_ble_eq_true rfl)⟩)
  dsimp only [Pt.U, Pt.locs, Pt.cells, Pt.slots] at X3 l3 y3 z3 st3 hQ3
  subst l3 y3 z3
  obtain ⟨rfl, N3q, e3⟩ := hQ3
  have Nf := Fr.app Nf N3q
  refine own_go (fun tQ kQ => st3.trans kQ) ?_
  show own_End p e below _ (T3.setTop (mkF m 29 #[.val (.int i0), .val (.int i1), .val (.long b), .second, .val (.long (i1.toInt64)), .second, .val (.ref o), .unset, .unset, .unset, .unset, .unset] [(.int (own_cov b i1))]))
  have z3 : (0 : Int64).toInt = 0 := by decide
  have w1 := own_n1 (c := i1) hb0 hb1
  have w2 := own_n2 (c := i1) hb0 hb1
  have w3 := own_n3 hb0 hb1
  have w4 := own_n4 hb0 hb1
  refine own_go (fun tQ kQ => XS.istore X3.here hx rfl (hb hby at_29) rfl (l' := #[.val (.int i0), .val (.int i1), .val (.long b), .second, .val (.long (i1.toInt64)), .second, .val (.ref o), .val (.int (own_cov b i1)), .unset, .unset, .unset, .unset]) rfl kQ) ?_
  show own_End p e below _ (T3.setTop (mkF m 31 #[.val (.int i0), .val (.int i1), .val (.long b), .second, .val (.long (i1.toInt64)), .second, .val (.ref o), .val (.int (own_cov b i1)), .unset, .unset, .unset, .unset] []))
  refine own_go (fun tQ kQ => XS.lload X3.here hx rfl (hb hby at_31) rfl kQ) ?_
  show own_End p e below _ (T3.setTop (mkF m 33 #[.val (.int i0), .val (.int i1), .val (.long b), .second, .val (.long (i1.toInt64)), .second, .val (.ref o), .val (.int (own_cov b i1)), .unset, .unset, .unset, .unset] [(.long (i1.toInt64))]))
  refine own_go (fun tQ kQ => XS.lloadN X3.here hx rfl (hb hby at_33) rfl kQ) ?_
  show own_End p e below _ (T3.setTop (mkF m 34 #[.val (.int i0), .val (.int i1), .val (.long b), .second, .val (.long (i1.toInt64)), .second, .val (.ref o), .val (.int (own_cov b i1)), .unset, .unset, .unset, .unset] [(.long b), (.long (i1.toInt64))]))
  refine own_go (fun tQ kQ => XS.lsub X3.here hx rfl (hb hby at_34) rfl kQ) ?_
  show own_End p e below _ (T3.setTop (mkF m 35 #[.val (.int i0), .val (.int i1), .val (.long b), .second, .val (.long (i1.toInt64)), .second, .val (.ref o), .val (.int (own_cov b i1)), .unset, .unset, .unset, .unset] [(.long ((i1.toInt64) - b))]))
  refine own_go (fun tQ kQ => XS.lstore X3.here hx rfl (hb hby at_35) rfl (l' := #[.val (.int i0), .val (.int i1), .val (.long b), .second, .val (.long (i1.toInt64)), .second, .val (.ref o), .val (.int (own_cov b i1)), .val (.long ((i1.toInt64) - b)), .second, .unset, .unset]) rfl kQ) ?_
  show own_End p e below _ (T3.setTop (mkF m 37 #[.val (.int i0), .val (.int i1), .val (.long b), .second, .val (.long (i1.toInt64)), .second, .val (.ref o), .val (.int (own_cov b i1)), .val (.long ((i1.toInt64) - b)), .second, .unset, .unset] []))
  refine own_go (fun tQ kQ => XS.lload X3.here hx rfl (hb hby at_37) rfl kQ) ?_
  show own_End p e below _ (T3.setTop (mkF m 39 #[.val (.int i0), .val (.int i1), .val (.long b), .second, .val (.long (i1.toInt64)), .second, .val (.ref o), .val (.int (own_cov b i1)), .val (.long ((i1.toInt64) - b)), .second, .unset, .unset] [(.long ((i1.toInt64) - b))]))
  refine own_go (fun tQ kQ => XS.lconst X3.here hx rfl (hb hby at_39) kQ) ?_
  show own_End p e below _ (T3.setTop (mkF m 40 #[.val (.int i0), .val (.int i1), .val (.long b), .second, .val (.long (i1.toInt64)), .second, .val (.ref o), .val (.int (own_cov b i1)), .val (.long ((i1.toInt64) - b)), .second, .unset, .unset] [(.long (0 : Int64)), (.long ((i1.toInt64) - b))]))
  refine own_go (fun tQ kQ => XS.lcmp X3.here hx rfl (hb hby at_40) rfl kQ) ?_
  show own_End p e below _ (T3.setTop (mkF m 41 #[.val (.int i0), .val (.int i1), .val (.long b), .second, .val (.long (i1.toInt64)), .second, .val (.ref o), .val (.int (own_cov b i1)), .val (.long ((i1.toInt64) - b)), .second, .unset, .unset] [(.int (lcmpW ((i1.toInt64) - b) (0 : Int64)))]))
  by_cases hc41 : (0 : Int64) < ((i1.toInt64) - b)
  ·
    refine own_go (fun tQ kQ => XS.ifYes X3.here hx rfl (pc0 := 41) (pc' := 47) rfl (hb hby at_41) rfl ((if0 _ _).trans (tlt ((lw_gt ((i1.toInt64) - b) (0 : Int64)).mpr hc41)).2.2.1) (by decide) (by decide) kQ) ?_
    show own_End p e below _ (T3.setTop (mkF m 47 #[.val (.int i0), .val (.int i1), .val (.long b), .second, .val (.long (i1.toInt64)), .second, .val (.ref o), .val (.int (own_cov b i1)), .val (.long ((i1.toInt64) - b)), .second, .unset, .unset] []))
    rw [Int64.lt_iff_toInt_lt, w1, z3] at hc41
    refine own_go (fun tQ kQ => XS.lload X3.here hx rfl (hb hby at_47) rfl kQ) ?_
    show own_End p e below _ (T3.setTop (mkF m 49 #[.val (.int i0), .val (.int i1), .val (.long b), .second, .val (.long (i1.toInt64)), .second, .val (.ref o), .val (.int (own_cov b i1)), .val (.long ((i1.toInt64) - b)), .second, .unset, .unset] [(.long ((i1.toInt64) - b))]))
    refine own_go (fun tQ kQ => X3.ldc2Long hx hown (mvT hZ (hw _ (List.mem_of_getElem? (i := 44) rfl))) (g := (mkF m 49 #[.val (.int i0), .val (.int i1), .val (.long b), .second, .val (.long (i1.toInt64)), .second, .val (.ref o), .val (.int (own_cov b i1)), .val (.long ((i1.toInt64) - b)), .second, .unset, .unset] [(.long ((i1.toInt64) - b))])) rfl (hb hby at_49) _ kQ) ?_
    show own_End p e below _ (T3.setTop (mkF m 52 #[.val (.int i0), .val (.int i1), .val (.long b), .second, .val (.long (i1.toInt64)), .second, .val (.ref o), .val (.int (own_cov b i1)), .val (.long ((i1.toInt64) - b)), .second, .unset, .unset] [(.long (1000000000 : Int64)), (.long ((i1.toInt64) - b))]))
    refine own_go (fun tQ kQ => XS.lmul X3.here hx rfl (hb hby at_52) rfl kQ) ?_
    show own_End p e below _ (T3.setTop (mkF m 53 #[.val (.int i0), .val (.int i1), .val (.long b), .second, .val (.long (i1.toInt64)), .second, .val (.ref o), .val (.int (own_cov b i1)), .val (.long ((i1.toInt64) - b)), .second, .unset, .unset] [(.long (((i1.toInt64) - b) * (1000000000 : Int64)))]))
    refine own_go (fun tQ kQ => XS.lstore X3.here hx rfl (hb hby at_53) rfl (l' := #[.val (.int i0), .val (.int i1), .val (.long b), .second, .val (.long (i1.toInt64)), .second, .val (.ref o), .val (.int (own_cov b i1)), .val (.long ((i1.toInt64) - b)), .second, .val (.long (((i1.toInt64) - b) * (1000000000 : Int64))), .second]) rfl kQ) ?_
    show own_End p e below _ (T3.setTop (mkF m 55 #[.val (.int i0), .val (.int i1), .val (.long b), .second, .val (.long (i1.toInt64)), .second, .val (.ref o), .val (.int (own_cov b i1)), .val (.long ((i1.toInt64) - b)), .second, .val (.long (((i1.toInt64) - b) * (1000000000 : Int64))), .second] []))
    refine own_go (fun tQ kQ => XS.lload X3.here hx rfl (hb hby at_55) rfl kQ) ?_
    show own_End p e below _ (T3.setTop (mkF m 57 #[.val (.int i0), .val (.int i1), .val (.long b), .second, .val (.long (i1.toInt64)), .second, .val (.ref o), .val (.int (own_cov b i1)), .val (.long ((i1.toInt64) - b)), .second, .val (.long (((i1.toInt64) - b) * (1000000000 : Int64))), .second] [(.long (((i1.toInt64) - b) * (1000000000 : Int64)))]))
    refine own_go (fun tQ kQ => XS.lloadN X3.here hx rfl (hb hby at_57) rfl kQ) ?_
    show own_End p e below _ (T3.setTop (mkF m 58 #[.val (.int i0), .val (.int i1), .val (.long b), .second, .val (.long (i1.toInt64)), .second, .val (.ref o), .val (.int (own_cov b i1)), .val (.long ((i1.toInt64) - b)), .second, .val (.long (((i1.toInt64) - b) * (1000000000 : Int64))), .second] [(.long b), (.long (((i1.toInt64) - b) * (1000000000 : Int64)))]))
    refine own_go (fun tQ kQ => X3.ldc2Long hx hown (mvT hZ (hw _ (List.mem_of_getElem? (i := 45) rfl))) (g := (mkF m 58 #[.val (.int i0), .val (.int i1), .val (.long b), .second, .val (.long (i1.toInt64)), .second, .val (.ref o), .val (.int (own_cov b i1)), .val (.long ((i1.toInt64) - b)), .second, .val (.long (((i1.toInt64) - b) * (1000000000 : Int64))), .second] [(.long b), (.long (((i1.toInt64) - b) * (1000000000 : Int64)))])) rfl (hb hby at_58) _ kQ) ?_
    show own_End p e below _ (T3.setTop (mkF m 61 #[.val (.int i0), .val (.int i1), .val (.long b), .second, .val (.long (i1.toInt64)), .second, .val (.ref o), .val (.int (own_cov b i1)), .val (.long ((i1.toInt64) - b)), .second, .val (.long (((i1.toInt64) - b) * (1000000000 : Int64))), .second] [(.long (1000 : Int64)), (.long b), (.long (((i1.toInt64) - b) * (1000000000 : Int64)))]))
    refine own_go (fun tQ kQ => XS.ladd X3.here hx rfl (hb hby at_61) rfl kQ) ?_
    show own_End p e below _ (T3.setTop (mkF m 62 #[.val (.int i0), .val (.int i1), .val (.long b), .second, .val (.long (i1.toInt64)), .second, .val (.ref o), .val (.int (own_cov b i1)), .val (.long ((i1.toInt64) - b)), .second, .val (.long (((i1.toInt64) - b) * (1000000000 : Int64))), .second] [(.long (b + (1000 : Int64))), (.long (((i1.toInt64) - b) * (1000000000 : Int64)))]))
    refine own_go (fun tQ kQ => XS.lcmp X3.here hx rfl (hb hby at_62) rfl kQ) ?_
    show own_End p e below _ (T3.setTop (mkF m 63 #[.val (.int i0), .val (.int i1), .val (.long b), .second, .val (.long (i1.toInt64)), .second, .val (.ref o), .val (.int (own_cov b i1)), .val (.long ((i1.toInt64) - b)), .second, .val (.long (((i1.toInt64) - b) * (1000000000 : Int64))), .second] [(.int (lcmpW (((i1.toInt64) - b) * (1000000000 : Int64)) (b + (1000 : Int64))))]))
    by_cases hc63 : (b + (1000 : Int64)) < (((i1.toInt64) - b) * (1000000000 : Int64))
    ·
      refine own_go (fun tQ kQ => XS.ifNo X3.here hx rfl (hb hby at_63) rfl ((if0 _ _).trans (tlt ((lw_gt (((i1.toInt64) - b) * (1000000000 : Int64)) (b + (1000 : Int64))).mpr hc63)).2.2.2) kQ) ?_
      show own_End p e below _ (T3.setTop (mkF m 66 #[.val (.int i0), .val (.int i1), .val (.long b), .second, .val (.long (i1.toInt64)), .second, .val (.ref o), .val (.int (own_cov b i1)), .val (.long ((i1.toInt64) - b)), .second, .val (.long (((i1.toInt64) - b) * (1000000000 : Int64))), .second] []))
      rw [Int64.lt_iff_toInt_lt, w2, w3] at hc63
      have hv : own_cov b i1 = 0 := own_cov0 hb0 hb1 (own_i0 hb0 hc41) (own_i2 hb0 hb1 hc63)
      rw [hv]
      show own_End p e below _ (T3.setTop (mkF m 66 #[.val (.int i0), .val (.int i1), .val (.long b), .second, .val (.long (i1.toInt64)), .second, .val (.ref o), .val (.int (0 : Int32)), .val (.long ((i1.toInt64) - b)), .second, .val (.long (((i1.toInt64) - b) * (1000000000 : Int64))), .second] []))
      refine own_go (fun tQ kQ => XS.iload X3.here hx rfl (hb hby at_66) rfl kQ) ?_
      show own_End p e below _ (T3.setTop (mkF m 68 #[.val (.int i0), .val (.int i1), .val (.long b), .second, .val (.long (i1.toInt64)), .second, .val (.ref o), .val (.int (0 : Int32)), .val (.long ((i1.toInt64) - b)), .second, .val (.long (((i1.toInt64) - b) * (1000000000 : Int64))), .second] [(.int (0 : Int32))]))
      refine own_go (fun tQ kQ => XS.ifNo X3.here hx rfl (hb hby at_68) rfl ((if0 _ _).trans (teq (by decide)).2) kQ) ?_
      show own_End p e below _ (T3.setTop (mkF m 71 #[.val (.int i0), .val (.int i1), .val (.long b), .second, .val (.long (i1.toInt64)), .second, .val (.ref o), .val (.int (0 : Int32)), .val (.long ((i1.toInt64) - b)), .second, .val (.long (((i1.toInt64) - b) * (1000000000 : Int64))), .second] []))
      refine own_go (fun tQ kQ => XS.iconst X3.here hx rfl (hb hby at_71) kQ) ?_
      show own_End p e below _ (T3.setTop (mkF m 72 #[.val (.int i0), .val (.int i1), .val (.long b), .second, .val (.long (i1.toInt64)), .second, .val (.ref o), .val (.int (0 : Int32)), .val (.long ((i1.toInt64) - b)), .second, .val (.long (((i1.toInt64) - b) * (1000000000 : Int64))), .second] [(.int (1 : Int32))]))
      refine own_go (fun tQ kQ => XS.goto X3.here hx rfl (pc0 := 72) (pc' := 76) rfl (hb hby at_72) (by decide) (by decide) kQ) ?_
      show own_End p e below _ (T3.setTop (mkF m 76 #[.val (.int i0), .val (.int i1), .val (.long b), .second, .val (.long (i1.toInt64)), .second, .val (.ref o), .val (.int (0 : Int32)), .val (.long ((i1.toInt64) - b)), .second, .val (.long (((i1.toInt64) - b) * (1000000000 : Int64))), .second] [(.int (1 : Int32))]))
      obtain ⟨fs, hr, hrun, hended, hend⟩ := X3.leaveW hS (by rw [e3]; exact hkW) (v := some (.int (1 : Int32))) (fun h => by rw [Bd.returns] at h; cases h)
      refine ⟨_, _, (retN X3 hx (t := .boolean) Bd.returns (by simp) (hb hby at_76) hr), hrun, hended, _, _, rfl, ?_, ⟨hend.1, hend.2.1, hend.2.2.1, hend.2.2.2.mono (by decide) (by decide)⟩⟩
      show Q0 Z i0 i1 h0 n0 _ T3.heap _
      rw [e3]
      exact ⟨rfl, Nf⟩
    ·
      refine own_go (fun tQ kQ => XS.ifYes X3.here hx rfl (pc0 := 63) (pc' := 77) rfl (hb hby at_63) rfl ((if0 _ _).trans (flt (fun q => hc63 ((lw_gt (((i1.toInt64) - b) * (1000000000 : Int64)) (b + (1000 : Int64))).mp q))).2.2.2) (by decide) (by decide) kQ) ?_
      show own_End p e below _ (T3.setTop (mkF m 77 #[.val (.int i0), .val (.int i1), .val (.long b), .second, .val (.long (i1.toInt64)), .second, .val (.ref o), .val (.int (own_cov b i1)), .val (.long ((i1.toInt64) - b)), .second, .val (.long (((i1.toInt64) - b) * (1000000000 : Int64))), .second] []))
      refine own_go (fun tQ kQ => XS.lload X3.here hx rfl (hb hby at_77) rfl kQ) ?_
      show own_End p e below _ (T3.setTop (mkF m 79 #[.val (.int i0), .val (.int i1), .val (.long b), .second, .val (.long (i1.toInt64)), .second, .val (.ref o), .val (.int (own_cov b i1)), .val (.long ((i1.toInt64) - b)), .second, .val (.long (((i1.toInt64) - b) * (1000000000 : Int64))), .second] [(.long (((i1.toInt64) - b) * (1000000000 : Int64)))]))
      refine own_go (fun tQ kQ => XS.lloadN X3.here hx rfl (hb hby at_79) rfl kQ) ?_
      show own_End p e below _ (T3.setTop (mkF m 80 #[.val (.int i0), .val (.int i1), .val (.long b), .second, .val (.long (i1.toInt64)), .second, .val (.ref o), .val (.int (own_cov b i1)), .val (.long ((i1.toInt64) - b)), .second, .val (.long (((i1.toInt64) - b) * (1000000000 : Int64))), .second] [(.long b), (.long (((i1.toInt64) - b) * (1000000000 : Int64)))]))
      refine own_go (fun tQ kQ => X3.ldc2Long hx hown (mvT hZ (hw _ (List.mem_of_getElem? (i := 45) rfl))) (g := (mkF m 80 #[.val (.int i0), .val (.int i1), .val (.long b), .second, .val (.long (i1.toInt64)), .second, .val (.ref o), .val (.int (own_cov b i1)), .val (.long ((i1.toInt64) - b)), .second, .val (.long (((i1.toInt64) - b) * (1000000000 : Int64))), .second] [(.long b), (.long (((i1.toInt64) - b) * (1000000000 : Int64)))])) rfl (hb hby at_80) _ kQ) ?_
      show own_End p e below _ (T3.setTop (mkF m 83 #[.val (.int i0), .val (.int i1), .val (.long b), .second, .val (.long (i1.toInt64)), .second, .val (.ref o), .val (.int (own_cov b i1)), .val (.long ((i1.toInt64) - b)), .second, .val (.long (((i1.toInt64) - b) * (1000000000 : Int64))), .second] [(.long (1000 : Int64)), (.long b), (.long (((i1.toInt64) - b) * (1000000000 : Int64)))]))
      refine own_go (fun tQ kQ => XS.lsub X3.here hx rfl (hb hby at_83) rfl kQ) ?_
      show own_End p e below _ (T3.setTop (mkF m 84 #[.val (.int i0), .val (.int i1), .val (.long b), .second, .val (.long (i1.toInt64)), .second, .val (.ref o), .val (.int (own_cov b i1)), .val (.long ((i1.toInt64) - b)), .second, .val (.long (((i1.toInt64) - b) * (1000000000 : Int64))), .second] [(.long (b - (1000 : Int64))), (.long (((i1.toInt64) - b) * (1000000000 : Int64)))]))
      refine own_go (fun tQ kQ => XS.lcmp X3.here hx rfl (hb hby at_84) rfl kQ) ?_
      show own_End p e below _ (T3.setTop (mkF m 85 #[.val (.int i0), .val (.int i1), .val (.long b), .second, .val (.long (i1.toInt64)), .second, .val (.ref o), .val (.int (own_cov b i1)), .val (.long ((i1.toInt64) - b)), .second, .val (.long (((i1.toInt64) - b) * (1000000000 : Int64))), .second] [(.int (lcmpW (((i1.toInt64) - b) * (1000000000 : Int64)) (b - (1000 : Int64))))]))
      by_cases hc85 : (((i1.toInt64) - b) * (1000000000 : Int64)) < (b - (1000 : Int64))
      ·
        refine own_go (fun tQ kQ => XS.ifNo X3.here hx rfl (hb hby at_85) rfl ((if0 _ _).trans (tlt ((lw_lt (((i1.toInt64) - b) * (1000000000 : Int64)) (b - (1000 : Int64))).mpr hc85)).2.1) kQ) ?_
        show own_End p e below _ (T3.setTop (mkF m 88 #[.val (.int i0), .val (.int i1), .val (.long b), .second, .val (.long (i1.toInt64)), .second, .val (.ref o), .val (.int (own_cov b i1)), .val (.long ((i1.toInt64) - b)), .second, .val (.long (((i1.toInt64) - b) * (1000000000 : Int64))), .second] []))
        rw [Int64.lt_iff_toInt_lt, w2, w4] at hc85
        have hv : own_cov b i1 = 1 := own_cov1 hb0 hb1 (own_i3 hb0 hc85)
        rw [hv]
        show own_End p e below _ (T3.setTop (mkF m 88 #[.val (.int i0), .val (.int i1), .val (.long b), .second, .val (.long (i1.toInt64)), .second, .val (.ref o), .val (.int (1 : Int32)), .val (.long ((i1.toInt64) - b)), .second, .val (.long (((i1.toInt64) - b) * (1000000000 : Int64))), .second] []))
        refine own_go (fun tQ kQ => XS.iload X3.here hx rfl (hb hby at_88) rfl kQ) ?_
        show own_End p e below _ (T3.setTop (mkF m 90 #[.val (.int i0), .val (.int i1), .val (.long b), .second, .val (.long (i1.toInt64)), .second, .val (.ref o), .val (.int (1 : Int32)), .val (.long ((i1.toInt64) - b)), .second, .val (.long (((i1.toInt64) - b) * (1000000000 : Int64))), .second] [(.int (1 : Int32))]))
        obtain ⟨fs, hr, hrun, hended, hend⟩ := X3.leaveW hS (by rw [e3]; exact hkW) (v := some (.int (1 : Int32))) (fun h => by rw [Bd.returns] at h; cases h)
        refine ⟨_, _, (retN X3 hx (t := .boolean) Bd.returns (by simp) (hb hby at_90) hr), hrun, hended, _, _, rfl, ?_, ⟨hend.1, hend.2.1, hend.2.2.1, hend.2.2.2.mono (by decide) (by decide)⟩⟩
        show Q0 Z i0 i1 h0 n0 _ T3.heap _
        rw [e3]
        exact ⟨rfl, Nf⟩
      ·
        refine own_go (fun tQ kQ => XS.ifYes X3.here hx rfl (pc0 := 85) (pc' := 91) rfl (hb hby at_85) rfl ((if0 _ _).trans (flt (fun q => hc85 ((lw_lt (((i1.toInt64) - b) * (1000000000 : Int64)) (b - (1000 : Int64))).mp q))).2.1) (by decide) (by decide) kQ) ?_
        show own_End p e below _ (T3.setTop (mkF m 91 #[.val (.int i0), .val (.int i1), .val (.long b), .second, .val (.long (i1.toInt64)), .second, .val (.ref o), .val (.int (own_cov b i1)), .val (.long ((i1.toInt64) - b)), .second, .val (.long (((i1.toInt64) - b) * (1000000000 : Int64))), .second] []))
        refine own_go (fun tQ kQ => XS.iconst X3.here hx rfl (hb hby at_91) kQ) ?_
        show own_End p e below _ (T3.setTop (mkF m 92 #[.val (.int i0), .val (.int i1), .val (.long b), .second, .val (.long (i1.toInt64)), .second, .val (.ref o), .val (.int (own_cov b i1)), .val (.long ((i1.toInt64) - b)), .second, .val (.long (((i1.toInt64) - b) * (1000000000 : Int64))), .second] [(.int (1 : Int32))]))
        obtain ⟨fs, hr, hrun, hended, hend⟩ := X3.leaveW hS (by rw [e3]; exact hkW) (v := some (.int (1 : Int32))) (fun h => by rw [Bd.returns] at h; cases h)
        refine ⟨_, _, (retN X3 hx (t := .boolean) Bd.returns (by simp) (hb hby at_92) hr), hrun, hended, _, _, rfl, ?_, ⟨hend.1, hend.2.1, hend.2.2.1, hend.2.2.2.mono (by decide) (by decide)⟩⟩
        show Q0 Z i0 i1 h0 n0 _ T3.heap _
        rw [e3]
        exact ⟨rfl, Nf⟩
  ·
    refine own_go (fun tQ kQ => XS.ifNo X3.here hx rfl (hb hby at_41) rfl ((if0 _ _).trans (flt (fun q => hc41 ((lw_gt ((i1.toInt64) - b) (0 : Int64)).mp q))).2.2.1) kQ) ?_
    show own_End p e below _ (T3.setTop (mkF m 44 #[.val (.int i0), .val (.int i1), .val (.long b), .second, .val (.long (i1.toInt64)), .second, .val (.ref o), .val (.int (own_cov b i1)), .val (.long ((i1.toInt64) - b)), .second, .unset, .unset] []))
    rw [Int64.lt_iff_toInt_lt, w1, z3] at hc41
    have hv : own_cov b i1 = 1 := own_cov1 hb0 hb1 (own_i1 hb0 hc41)
    rw [hv]
    show own_End p e below _ (T3.setTop (mkF m 44 #[.val (.int i0), .val (.int i1), .val (.long b), .second, .val (.long (i1.toInt64)), .second, .val (.ref o), .val (.int (1 : Int32)), .val (.long ((i1.toInt64) - b)), .second, .unset, .unset] []))
    refine own_go (fun tQ kQ => XS.iload X3.here hx rfl (hb hby at_44) rfl kQ) ?_
    show own_End p e below _ (T3.setTop (mkF m 46 #[.val (.int i0), .val (.int i1), .val (.long b), .second, .val (.long (i1.toInt64)), .second, .val (.ref o), .val (.int (1 : Int32)), .val (.long ((i1.toInt64) - b)), .second, .unset, .unset] [(.int (1 : Int32))]))
    obtain ⟨fs, hr, hrun, hended, hend⟩ := X3.leaveW hS (by rw [e3]; exact hkW) (v := some (.int (1 : Int32))) (fun h => by rw [Bd.returns] at h; cases h)
    refine ⟨_, _, (retN X3 hx (t := .boolean) Bd.returns (by simp) (hb hby at_46) hr), hrun, hended, _, _, rfl, ?_, ⟨hend.1, hend.2.1, hend.2.2.1, hend.2.2.2.mono (by decide) (by decide)⟩⟩
    show Q0 Z i0 i1 h0 n0 _ T3.heap _
    rw [e3]
    exact ⟨rfl, Nf⟩
set_option maxRecDepth 65536 in
set_option maxHeartbeats 40000000 in
theorem comes_1 {Post : Tables → Env → Array Value → State → Outcome → State → Prop} (hpost : ∀ tb e args s v u, (limb_1_1.after args s (.returned v) u = true ∧ limb_1_2.after args s (.returned v) u = true ∧ True) → ReturnedEndW s (.returned v) u (Jvm.fieldLocs frame_1_writes args s ++ Jvm.arrayLocs frame_1_arrays args s ++ Jvm.staticLocs frame_1_statics s) 16 1152 → Post tb e args s (.returned v) u) :
    ArmFor flags0 classFile x code maxLocals ret World_1 tables_1 room_1 Calls_1 rest_1 Pre_1 Post := by
  intro l hfl _ _ p e ha hc hk s m args below hf hA hF happ hP
  obtain ⟨hcalls, hrest, hpre⟩ := hP
  obtain ⟨-, -, -, hnamed, -, -, -, hat⟩ := (Spec.applies_iff hf).mp happ
  obtain ⟨hg, hn⟩ := and_e (Cond.before_iff.mp (show (Jvm.Cond.and given_1 narrow_1).before args s = true from hpre))
  obtain ⟨h1, g0⟩ := and_e hg
  obtain ⟨k0, g1⟩ := and_e g0
  obtain ⟨w0, w1, rfl⟩ : ∃ w0 w1 : Value, args = #[w0, w1] := by
    have hs : args.size = 2 := by simpa [Cond.value, given_1] using h1
    obtain ⟨L⟩ := args
    match L, hs with
    | [w0, w1], _ => exact ⟨w0, w1, rfl⟩
  have hw := fun d (hd : d ∈ tables_1) => atoms_spec (ws := Jvm.Cond.code x code maxLocals ret :: tables_1) hat d (List.mem_cons_of_mem _ hd)
  have hfit : Fit s := fun {y c} hc i hi => by
    obtain ⟨ha, rfl⟩ := Array.getElem?_eq_some_iff.mp hc
    have q := List.all_eq_true.mp ((Array.all_eq_true_iff_forall_mem.mp hF) _ (Array.getElem_mem ha)) i (List.mem_range.mpr hi)
    simpa [Array.getElem?_eq_getElem hi] using q
  obtain ⟨v0, e0⟩ := is_v k0
  obtain rfl : w0 = (.int v0) := Option.some.inj e0
  obtain ⟨v1, e1⟩ := is_v g1
  obtain rfl : w1 = (.int v1) := Option.some.inj e1
  obtain ⟨n, o, h1, h2, h3, _, L, rfl, ⟨rfl, N⟩, hq⟩ := rm0 l s _ hw tables_1 v0 v1 s.heap s.heap.size (Nat.le_refl _) p e ha hc hk s m _ below hf ((Spec.applies_iff_loose hf).mp happ).1 ⟨rfl, State.Warmed39.refl s, rfl⟩ trivial
  refine ⟨n, _, h1, h2, h3, hpost _ _ _ _ _ _ ⟨Cond.after_iff.mpr rfl, Cond.after_iff.mpr (eq_i res_at (Term.int_eval (1)) rfl), trivial⟩ ⟨hq.1, hq.2.1, hq.2.2.1, (hq.2.2.2.sift fun y hy => Or.inr (N y hy)).mono (by decide) (by decide)⟩⟩
theorem main_1_1 : Claimed_1_1 := comes_1 fun _ _ _ _ _ _ h hF => ⟨h.1, hF⟩
theorem main_1_2 : Claimed_1_2 := comes_1 fun _ _ _ _ _ _ h hF => ⟨h.2.1, hF⟩
end Jvm.Pilot.@@N@@
namespace Jvm.Pilot.@@N@@
open Jvm Jvm.ClassFile Sem Op Lib Jvm.Free Jvm.Stand Jvm.Pilot.@@N@@.Jvm.D
/-! MADE BY PROGRAM (witnessworld.py) out of the Statement's table words and the real class files: 19 classes; the members and pool entries that the words name. The judged class is class 1, her method 1. -/
namespace start1
open Jvm.ClassFile
def u (s : String) : CpInfo := .utf8 (stringToUtf16 s)
/-- a pool by its gaps: so many unusable entries, then the entry; so many at the end -/
def gap : Nat → List CpInfo → List CpInfo
  | 0, r => r
  | n + 1, r => .unusable :: gap n r
def poolList (es : List (Nat × CpInfo)) (last : Nat) : List CpInfo := es.foldr (fun e r => gap e.1 (e.2 :: r)) (gap last [])
def pool (es : List (Nat × CpInfo)) (last : Nat) : Array CpInfo := ⟨poolList es last⟩
def fileOf (pool : Array CpInfo) (this : Nat) (attrs : Array Attribute := #[]) (ms : Array MethodInfo := #[]) (fl : Nat := 33) (sup : Nat := 0) (ifs : Array Nat := #[]) (fds : Array FieldInfo := #[]) : ClassFile where
  minorVersion := 0
  majorVersion := 65
  constantPool := pool
  accessFlags := fl
  thisClass := this
  superClass := sup
  interfaces := ifs
  fields := fds
  methods := ms
  attributes := attrs
def plain (name : String) (sup : Option ClassId) : Class where
  name := name
  kind := .ordinary
  loader := none
  accessFlags := 33
  super := sup
  interfaces := #[]
  cf := none
  fields := #[]
  methods := #[]
  instanceTypes := #[]
  staticTypes := #[]
  resolved := #[]
  callSites := []
  init := .initialized
  statics := none
  mirror := none

def pool0 : Array CpInfo := pool [(5, u "<init>"), (0, u "()V"), (1, .class_ 10), (1, u "java/lang/Object")] 113

def k0c0 : Code := { maxStack := 0, maxLocals := 1, code := object_method_1_code, exceptionTable := #[], attributes := #[] }
def k0m0 : Method := { name := "<init>", desc := "()V", sig := { parameters := [], returnType := none }, accessFlags := 1, code := some k0c0 }
/-- java/lang/Object -/
def k0 : Class := { plain "java/lang/Object" none with
  accessFlags := 33
  interfaces := #[]
  cf := some (fileOf pool0 8 #[] #[{ accessFlags := 1, nameIndex := 5, descriptorIndex := 6, attributes := #[] }] 33 0 #[] #[])
  fields := #[]
  methods := #[k0m0]
  instanceTypes := #[]
  staticTypes := #[]
  resolved := Array.replicate 124 none
  statics := none }

def pool1 : Array CpInfo := pool [(2, .class_ 4), (1, u "java/lang/Object"), (0, u "<init>"), (0, u "()V"), (0, .long 2147483647), (1, .class_ 10), (0, u "com/example/tasks_to_slots/taskstoslots/model/Budget"), (0, .methodref 9 12), (0, .nameAndType 5 13), (0, u "(D)V"), (0, .methodref 9 15), (0, .nameAndType 16 17), (0, u "covers"), (0, u "(D)Z"), (0, .long 1000000000), (1, .long 1000), (1, .class_ 23), (0, u "com/example/tasks_to_slots/taskstoslots/model/BudgetCoversPinLaw"), (2, u "law"), (0, u "(II)Z")] 3

def k1m0 : Method := { name := "<init>", desc := "()V", sig := { parameters := [], returnType := none }, accessFlags := 1, code := none }
def k1c1 : Code := { maxStack := 6, maxLocals := 12, code := code, exceptionTable := #[], attributes := #[] }
def k1m1 : Method := { name := "law", desc := "(II)Z", sig := { parameters := [.int, .int], returnType := some .boolean }, accessFlags := 9, code := some k1c1 }
/-- com/example/tasks_to_slots/taskstoslots/model/BudgetCoversPinLaw -/
def k1 : Class := { plain "com/example/tasks_to_slots/taskstoslots/model/BudgetCoversPinLaw" (some 0) with
  accessFlags := 49
  interfaces := #[]
  cf := some (fileOf pool1 22 #[] #[{ accessFlags := 1, nameIndex := 5, descriptorIndex := 6, attributes := #[] }, { accessFlags := 9, nameIndex := 26, descriptorIndex := 27, attributes := #[] }] 49 2 #[] #[])
  fields := #[]
  methods := #[k1m0, k1m1]
  instanceTypes := #[]
  staticTypes := #[]
  resolved := Array.replicate 31 none
  statics := none }

def pool2 : Array CpInfo := pool [(1, .methodref 2 3), (0, .class_ 4), (0, .nameAndType 5 6), (0, u "java/lang/Object"), (0, u "<init>"), (0, u "()V"), (0, .class_ 8), (0, u "java/lang/Record")] 13

def k2c0 : Code := { maxStack := 1, maxLocals := 1, code := jdk_30_method_1_code, exceptionTable := #[], attributes := #[] }
def k2m0 : Method := { name := "<init>", desc := "()V", sig := { parameters := [], returnType := none }, accessFlags := 4, code := some k2c0 }
/-- java/lang/Record -/
def k2 : Class := { plain "java/lang/Record" (some 0) with
  accessFlags := 1057
  interfaces := #[]
  cf := some (fileOf pool2 7 #[] #[{ accessFlags := 4, nameIndex := 5, descriptorIndex := 6, attributes := #[] }] 1057 2 #[] #[])
  fields := #[]
  methods := #[k2m0]
  instanceTypes := #[]
  staticTypes := #[]
  resolved := Array.replicate 22 none
  statics := none }

def pool3 : Array CpInfo := pool [(1, .methodref 2 3), (0, .class_ 4), (0, .nameAndType 5 6), (0, u "java/lang/Record"), (0, u "<init>"), (0, u "()V"), (0, .string 8), (0, u "budget"), (0, .methodref 10 11), (0, .class_ 12), (0, .nameAndType 13 14), (0, u "com/example/tasks_to_slots/taskstoslots/model/Checks"), (0, u "requireNonNegative"), (0, u "(DLjava/lang/String;)V"), (0, .fieldref 16 17), (0, .class_ 18), (0, .nameAndType 19 20), (0, u "com/example/tasks_to_slots/taskstoslots/model/Budget"), (0, u "usd"), (0, u "D"), (2, .double 4607182418804521008), (13, u "covers"), (3, u "(D)Z"), (28, u "(D)V")] 47

def k3c0 : Code := { maxStack := 3, maxLocals := 3, code := prog_35_method_1_code, exceptionTable := #[], attributes := #[] }
def k3m0 : Method := { name := "<init>", desc := "(D)V", sig := { parameters := [.double], returnType := none }, accessFlags := 1, code := some k3c0 }
def k3c1 : Code := { maxStack := 6, maxLocals := 3, code := prog_35_method_2_code, exceptionTable := #[], attributes := #[] }
def k3m1 : Method := { name := "covers", desc := "(D)Z", sig := { parameters := [.double], returnType := some .boolean }, accessFlags := 1, code := some k3c1 }
/-- com/example/tasks_to_slots/taskstoslots/model/Budget -/
def k3 : Class := { plain "com/example/tasks_to_slots/taskstoslots/model/Budget" (some 2) with
  accessFlags := 49
  interfaces := #[]
  cf := some (fileOf pool3 16 #[] #[{ accessFlags := 1, nameIndex := 5, descriptorIndex := 70, attributes := #[] }, { accessFlags := 1, nameIndex := 37, descriptorIndex := 41, attributes := #[] }] 49 2 #[] #[{ accessFlags := 18, nameIndex := 19, descriptorIndex := 20, attributes := #[] }])
  fields := #[{ name := "usd", type := .double, accessFlags := 18, slot := 0, constantValue := 0 }]
  methods := #[k3m0, k3m1]
  instanceTypes := #[.double]
  staticTypes := #[]
  resolved := Array.replicate 118 none
  statics := none }

def pool4 : Array CpInfo := pool [(1, .class_ 2), (0, u "java/io/Serializable"), (0, .class_ 4), (0, u "java/lang/Object")] 2

/-- java/io/Serializable -/
def k4 : Class := { plain "java/io/Serializable" (some 0) with
  accessFlags := 1537
  interfaces := #[]
  cf := some (fileOf pool4 1 #[] #[] 1537 3 #[] #[])
  fields := #[]
  methods := #[]
  instanceTypes := #[]
  staticTypes := #[]
  resolved := Array.replicate 7 none
  statics := none }

def pool5 : Array CpInfo := pool [(1, .class_ 2), (0, u "java/lang/Comparable"), (0, .class_ 4), (0, u "java/lang/Object")] 7

/-- java/lang/Comparable -/
def k5 : Class := { plain "java/lang/Comparable" (some 0) with
  accessFlags := 1537
  interfaces := #[]
  cf := some (fileOf pool5 1 #[] #[] 1537 3 #[] #[])
  fields := #[]
  methods := #[]
  instanceTypes := #[]
  staticTypes := #[]
  resolved := Array.replicate 12 none
  statics := none }

def pool6 : Array CpInfo := pool [(2, .class_ 4), (1, u "java/lang/CharSequence"), (42, .class_ 48), (0, u "java/lang/CharSequence$1CodePointIterator"), (10, .class_ 60), (0, u "java/lang/CharSequence$1CharIterator"), (5, .class_ 67), (0, u "java/lang/Object")] 63

/-- java/lang/CharSequence -/
def k6 : Class := { plain "java/lang/CharSequence" (some 0) with
  accessFlags := 1537
  interfaces := #[]
  cf := some (fileOf pool6 2 #[.nestMembers #[47, 59]] #[] 1537 66 #[] #[])
  fields := #[]
  methods := #[]
  instanceTypes := #[]
  staticTypes := #[]
  resolved := Array.replicate 131 none
  statics := none }

def pool7 : Array CpInfo := pool [(1, .class_ 2), (0, u "java/lang/constant/Constable"), (0, .class_ 4), (0, u "java/lang/Object")] 6

/-- java/lang/constant/Constable -/
def k7 : Class := { plain "java/lang/constant/Constable" (some 0) with
  accessFlags := 1537
  interfaces := #[]
  cf := some (fileOf pool7 1 #[] #[] 1537 3 #[] #[])
  fields := #[]
  methods := #[]
  instanceTypes := #[]
  staticTypes := #[]
  resolved := Array.replicate 11 none
  statics := none }

def pool8 : Array CpInfo := pool [(1, .class_ 2), (0, u "java/lang/constant/ConstantDesc"), (0, .class_ 4), (0, u "java/lang/Object")] 32

/-- java/lang/constant/ConstantDesc -/
def k8 : Class := { plain "java/lang/constant/ConstantDesc" (some 0) with
  accessFlags := 1537
  interfaces := #[]
  cf := some (fileOf pool8 1 #[] #[] 1537 3 #[] #[])
  fields := #[]
  methods := #[]
  instanceTypes := #[]
  staticTypes := #[]
  resolved := Array.replicate 37 none
  statics := none }

def pool9 : Array CpInfo := pool [(2, .class_ 4), (1, u "java/lang/Object"), (0, u "<init>"), (0, u "()V"), (3, .class_ 12), (1, u "java/lang/String"), (0, u "value"), (0, u "[B"), (2, u "coder"), (0, u "B"), (2, u "hash"), (0, u "I"), (2, u "hashIsZero"), (0, u "Z"), (13, u "COMPACT_STRINGS"), (534, .class_ 576), (0, u "java/lang/CharSequence"), (22, u "CASE_INSENSITIVE_ORDER"), (0, u "Ljava/util/Comparator;"), (500, u "serialPersistentFields"), (0, u "[Ljava/io/ObjectStreamField;"), (0, .class_ 1104), (0, u "java/lang/String$CaseInsensitiveComparator"), (1, .class_ 1107), (0, u "java/io/Serializable"), (0, .class_ 1109), (0, u "java/lang/Comparable"), (0, .class_ 1111), (0, u "java/lang/constant/Constable"), (0, .class_ 1113), (0, u "java/lang/constant/ConstantDesc"), (2, u "serialVersionUID"), (0, u "J"), (3, u "REPL"), (0, u "C"), (2, u "LATIN1"), (1, u "UTF16")] 323

def k9m0 : Method := { name := "<init>", desc := "()V", sig := { parameters := [], returnType := none }, accessFlags := 1, code := none }
/-- java/lang/String -/
def k9 : Class := { plain "java/lang/String" (some 0) with
  accessFlags := 49
  interfaces := #[4, 5, 6, 7, 8]
  cf := some (fileOf pool9 10 #[.nestMembers #[1103]] #[{ accessFlags := 1, nameIndex := 5, descriptorIndex := 6, attributes := #[] }] 49 2 #[1106, 1108, 575, 1110, 1112] #[{ accessFlags := 18, nameIndex := 13, descriptorIndex := 14, attributes := #[] }, { accessFlags := 18, nameIndex := 17, descriptorIndex := 18, attributes := #[] }, { accessFlags := 2, nameIndex := 21, descriptorIndex := 22, attributes := #[] }, { accessFlags := 2, nameIndex := 25, descriptorIndex := 26, attributes := #[] }, { accessFlags := 26, nameIndex := 1116, descriptorIndex := 1117, attributes := #[] }, { accessFlags := 24, nameIndex := 40, descriptorIndex := 26, attributes := #[] }, { accessFlags := 26, nameIndex := 1101, descriptorIndex := 1102, attributes := #[] }, { accessFlags := 26, nameIndex := 1121, descriptorIndex := 1122, attributes := #[] }, { accessFlags := 25, nameIndex := 599, descriptorIndex := 600, attributes := #[] }, { accessFlags := 24, nameIndex := 1125, descriptorIndex := 18, attributes := #[] }, { accessFlags := 24, nameIndex := 1127, descriptorIndex := 18, attributes := #[] }])
  fields := #[{ name := "value", type := (.array .byte), accessFlags := 18, slot := 0, constantValue := 0 }, { name := "coder", type := .byte, accessFlags := 18, slot := 1, constantValue := 0 }, { name := "hash", type := .int, accessFlags := 2, slot := 2, constantValue := 0 }, { name := "hashIsZero", type := .boolean, accessFlags := 2, slot := 3, constantValue := 0 }, { name := "serialVersionUID", type := .long, accessFlags := 26, slot := 0, constantValue := 0 }, { name := "COMPACT_STRINGS", type := .boolean, accessFlags := 24, slot := 1, constantValue := 0 }, { name := "serialPersistentFields", type := (.array (.object "java/io/ObjectStreamField")), accessFlags := 26, slot := 2, constantValue := 0 }, { name := "REPL", type := .char, accessFlags := 26, slot := 3, constantValue := 0 }, { name := "CASE_INSENSITIVE_ORDER", type := (.object "java/util/Comparator"), accessFlags := 25, slot := 4, constantValue := 0 }, { name := "LATIN1", type := .byte, accessFlags := 24, slot := 5, constantValue := 0 }, { name := "UTF16", type := .byte, accessFlags := 24, slot := 6, constantValue := 0 }]
  methods := #[k9m0]
  instanceTypes := #[(.array .byte), .byte, .int, .boolean]
  staticTypes := #[.long, .boolean, (.array (.object "java/io/ObjectStreamField")), .char, (.object "java/util/Comparator"), .byte, .byte]
  resolved := Array.replicate 1451 none
  statics := none }

def pool10 : Array CpInfo := pool [(2, .class_ 4), (1, u "java/lang/Object"), (0, u "<init>"), (0, u "()V"), (0, .methodref 8 9), (0, .class_ 10), (0, .nameAndType 11 12), (0, u "java/lang/Double"), (0, u "isInfinite"), (0, u "(D)Z"), (18, .class_ 32), (0, u "com/example/tasks_to_slots/taskstoslots/model/Checks"), (3, u "(DLjava/lang/String;)V"), (2, u "requireNonNegative")] 19

def k10m0 : Method := { name := "<init>", desc := "()V", sig := { parameters := [], returnType := none }, accessFlags := 2, code := none }
def k10c1 : Code := { maxStack := 5, maxLocals := 3, code := prog_38_method_4_code, exceptionTable := #[], attributes := #[] }
def k10m1 : Method := { name := "requireNonNegative", desc := "(DLjava/lang/String;)V", sig := { parameters := [.double, (.object "java/lang/String")], returnType := none }, accessFlags := 8, code := some k10c1 }
/-- com/example/tasks_to_slots/taskstoslots/model/Checks -/
def k10 : Class := { plain "com/example/tasks_to_slots/taskstoslots/model/Checks" (some 0) with
  accessFlags := 32
  interfaces := #[]
  cf := some (fileOf pool10 31 #[] #[{ accessFlags := 2, nameIndex := 5, descriptorIndex := 6, attributes := #[] }, { accessFlags := 8, nameIndex := 39, descriptorIndex := 36, attributes := #[] }] 32 2 #[] #[])
  fields := #[]
  methods := #[k10m0, k10m1]
  instanceTypes := #[]
  staticTypes := #[]
  resolved := Array.replicate 59 none
  statics := none }

def pool11 : Array CpInfo := pool [(2, .class_ 4), (1, u "java/lang/Object"), (0, u "<init>"), (0, u "()V"), (1, .class_ 10), (1, u "java/lang/Number"), (2, .class_ 14), (0, u "java/io/Serializable"), (0, u "serialVersionUID"), (0, u "J")] 20

def k11m0 : Method := { name := "<init>", desc := "()V", sig := { parameters := [], returnType := none }, accessFlags := 1, code := none }
/-- java/lang/Number -/
def k11 : Class := { plain "java/lang/Number" (some 0) with
  accessFlags := 1057
  interfaces := #[4]
  cf := some (fileOf pool11 8 #[] #[{ accessFlags := 1, nameIndex := 5, descriptorIndex := 6, attributes := #[] }] 1057 2 #[13] #[{ accessFlags := 26, nameIndex := 15, descriptorIndex := 16, attributes := #[] }])
  fields := #[{ name := "serialVersionUID", type := .long, accessFlags := 26, slot := 0, constantValue := 0 }]
  methods := #[k11m0]
  instanceTypes := #[]
  staticTypes := #[.long]
  resolved := Array.replicate 37 none
  statics := none }

def pool12 : Array CpInfo := pool [(1, .class_ 2), (0, u "java/lang/Double"), (11, u "(D)Z"), (8, .class_ 25), (1, u "java/lang/Math"), (12, .methodref 23 39), (0, .nameAndType 40 41), (0, u "abs"), (0, u "(D)D"), (69, .double 9218868437227405311), (2, .class_ 116), (1, u "java/lang/Number"), (3, u "value"), (0, u "D"), (5, u "isInfinite"), (45, u "TYPE"), (0, u "Ljava/lang/Class;"), (0, .class_ 176), (0, u "java/lang/Comparable"), (0, .class_ 178), (0, u "java/lang/constant/Constable"), (0, .class_ 180), (0, u "java/lang/constant/ConstantDesc"), (0, u "POSITIVE_INFINITY"), (3, u "NEGATIVE_INFINITY"), (2, u "NaN"), (2, u "MAX_VALUE"), (0, u "MIN_NORMAL"), (0, u "MIN_VALUE"), (2, u "SIZE"), (0, u "I"), (1, u "PRECISION"), (1, u "MAX_EXPONENT"), (1, u "MIN_EXPONENT"), (1, u "BYTES"), (3, u "serialVersionUID"), (0, u "J")] 79

def k12c0 : Code := { maxStack := 4, maxLocals := 2, code := jdk_117_method_7_code, exceptionTable := #[], attributes := #[] }
def k12m0 : Method := { name := "isInfinite", desc := "(D)Z", sig := { parameters := [.double], returnType := some .boolean }, accessFlags := 9, code := some k12c0 }
/-- java/lang/Double -/
def k12 : Class := { plain "java/lang/Double" (some 11) with
  accessFlags := 49
  interfaces := #[5, 7, 8]
  cf := some (fileOf pool12 1 #[] #[{ accessFlags := 9, nameIndex := 127, descriptorIndex := 14, attributes := #[] }] 49 114 #[175, 177, 179] #[{ accessFlags := 25, nameIndex := 181, descriptorIndex := 121, attributes := #[] }, { accessFlags := 25, nameIndex := 185, descriptorIndex := 121, attributes := #[] }, { accessFlags := 25, nameIndex := 188, descriptorIndex := 121, attributes := #[] }, { accessFlags := 25, nameIndex := 191, descriptorIndex := 121, attributes := #[] }, { accessFlags := 25, nameIndex := 192, descriptorIndex := 121, attributes := #[] }, { accessFlags := 25, nameIndex := 193, descriptorIndex := 121, attributes := #[] }, { accessFlags := 25, nameIndex := 196, descriptorIndex := 197, attributes := #[] }, { accessFlags := 25, nameIndex := 199, descriptorIndex := 197, attributes := #[] }, { accessFlags := 25, nameIndex := 201, descriptorIndex := 197, attributes := #[] }, { accessFlags := 25, nameIndex := 203, descriptorIndex := 197, attributes := #[] }, { accessFlags := 25, nameIndex := 205, descriptorIndex := 197, attributes := #[] }, { accessFlags := 25, nameIndex := 173, descriptorIndex := 174, attributes := #[] }, { accessFlags := 18, nameIndex := 120, descriptorIndex := 121, attributes := #[] }, { accessFlags := 26, nameIndex := 209, descriptorIndex := 210, attributes := #[] }])
  fields := #[{ name := "POSITIVE_INFINITY", type := .double, accessFlags := 25, slot := 0, constantValue := 0 }, { name := "NEGATIVE_INFINITY", type := .double, accessFlags := 25, slot := 1, constantValue := 0 }, { name := "NaN", type := .double, accessFlags := 25, slot := 2, constantValue := 0 }, { name := "MAX_VALUE", type := .double, accessFlags := 25, slot := 3, constantValue := 0 }, { name := "MIN_NORMAL", type := .double, accessFlags := 25, slot := 4, constantValue := 0 }, { name := "MIN_VALUE", type := .double, accessFlags := 25, slot := 5, constantValue := 0 }, { name := "SIZE", type := .int, accessFlags := 25, slot := 6, constantValue := 0 }, { name := "PRECISION", type := .int, accessFlags := 25, slot := 7, constantValue := 0 }, { name := "MAX_EXPONENT", type := .int, accessFlags := 25, slot := 8, constantValue := 0 }, { name := "MIN_EXPONENT", type := .int, accessFlags := 25, slot := 9, constantValue := 0 }, { name := "BYTES", type := .int, accessFlags := 25, slot := 10, constantValue := 0 }, { name := "TYPE", type := (.object "java/lang/Class"), accessFlags := 25, slot := 11, constantValue := 0 }, { name := "value", type := .double, accessFlags := 18, slot := 0, constantValue := 0 }, { name := "serialVersionUID", type := .long, accessFlags := 26, slot := 12, constantValue := 0 }]
  methods := #[k12m0]
  instanceTypes := #[.double]
  staticTypes := #[.double, .double, .double, .double, .double, .double, .int, .int, .int, .int, .int, (.object "java/lang/Class"), .long]
  resolved := Array.replicate 290 none
  statics := none }

def pool13 : Array CpInfo := pool [(1, .class_ 2), (0, u "java/lang/Math"), (1, .class_ 6), (1, u "java/lang/Object"), (0, u "<init>"), (0, u "()V"), (5, u "(D)D"), (83, .class_ 100), (1, u "java/lang/Math$RandomNumberGeneratorHolder"), (23, u "abs"), (47, u "negativeZeroFloatBits"), (0, u "J"), (2, u "negativeZeroDoubleBits"), (68, u "$assertionsDisabled"), (0, u "Z"), (91, u "twoToTheDoubleScaleDown"), (0, u "D"), (4, u "twoToTheDoubleScaleUp"), (9, u "E"), (3, u "PI"), (2, u "TAU"), (2, u "DEGREES_TO_RADIANS"), (0, u "RADIANS_TO_DEGREES")] 94

def k13m0 : Method := { name := "<init>", desc := "()V", sig := { parameters := [], returnType := none }, accessFlags := 2, code := none }
def k13c1 : Code := { maxStack := 4, maxLocals := 2, code := jdk_29_method_64_code, exceptionTable := #[], attributes := #[] }
def k13m1 : Method := { name := "abs", desc := "(D)D", sig := { parameters := [.double], returnType := some .double }, accessFlags := 9, code := some k13c1 }
/-- java/lang/Math -/
def k13 : Class := { plain "java/lang/Math" (some 0) with
  accessFlags := 49
  interfaces := #[]
  cf := some (fileOf pool13 1 #[.nestMembers #[98]] #[{ accessFlags := 2, nameIndex := 7, descriptorIndex := 8, attributes := #[] }, { accessFlags := 9, nameIndex := 124, descriptorIndex := 14, attributes := #[] }] 49 4 #[] #[{ accessFlags := 25, nameIndex := 354, descriptorIndex := 339, attributes := #[] }, { accessFlags := 25, nameIndex := 358, descriptorIndex := 339, attributes := #[] }, { accessFlags := 25, nameIndex := 361, descriptorIndex := 339, attributes := #[] }, { accessFlags := 26, nameIndex := 364, descriptorIndex := 339, attributes := #[] }, { accessFlags := 26, nameIndex := 365, descriptorIndex := 339, attributes := #[] }, { accessFlags := 26, nameIndex := 172, descriptorIndex := 173, attributes := #[] }, { accessFlags := 26, nameIndex := 176, descriptorIndex := 173, attributes := #[] }, { accessFlags := 8, nameIndex := 344, descriptorIndex := 339, attributes := #[] }, { accessFlags := 8, nameIndex := 338, descriptorIndex := 339, attributes := #[] }, { accessFlags := 4120, nameIndex := 245, descriptorIndex := 246, attributes := #[] }])
  fields := #[{ name := "E", type := .double, accessFlags := 25, slot := 0, constantValue := 0 }, { name := "PI", type := .double, accessFlags := 25, slot := 1, constantValue := 0 }, { name := "TAU", type := .double, accessFlags := 25, slot := 2, constantValue := 0 }, { name := "DEGREES_TO_RADIANS", type := .double, accessFlags := 26, slot := 3, constantValue := 0 }, { name := "RADIANS_TO_DEGREES", type := .double, accessFlags := 26, slot := 4, constantValue := 0 }, { name := "negativeZeroFloatBits", type := .long, accessFlags := 26, slot := 5, constantValue := 0 }, { name := "negativeZeroDoubleBits", type := .long, accessFlags := 26, slot := 6, constantValue := 0 }, { name := "twoToTheDoubleScaleUp", type := .double, accessFlags := 8, slot := 7, constantValue := 0 }, { name := "twoToTheDoubleScaleDown", type := .double, accessFlags := 8, slot := 8, constantValue := 0 }, { name := "$assertionsDisabled", type := .boolean, accessFlags := 4120, slot := 9, constantValue := 0 }]
  methods := #[k13m0, k13m1]
  instanceTypes := #[]
  staticTypes := #[.double, .double, .double, .double, .double, .long, .long, .double, .double, .boolean]
  resolved := Array.replicate 460 none
  statics := none }

def pool14 : Array CpInfo := pool [(1, u "java/lang/Cloneable"), (0, .class_ 1), (0, u "java/lang/Object"), (0, .class_ 3)] 3

/-- java/lang/Cloneable -/
def k14 : Class := { plain "java/lang/Cloneable" (some 0) with
  accessFlags := 1537
  interfaces := #[]
  cf := some (fileOf pool14 2 #[] #[] 1537 4 #[] #[])
  fields := #[]
  methods := #[]
  instanceTypes := #[]
  staticTypes := #[]
  resolved := Array.replicate 8 none
  statics := none }

/-- the primitive byte -/
def k15 : Class := { plain "byte" none with kind := .primitive 'B', accessFlags := 0x411 }
/-- [B -/
def k16 : Class := { plain "[B" (some 0) with kind := .array 15 .byte, interfaces := #[14, 4], accessFlags := 1041 }

/-- the primitive int -/
def k17 : Class := { plain "int" none with kind := .primitive 'I', accessFlags := 0x411 }
/-- [I -/
def k18 : Class := { plain "[I" (some 0) with kind := .array 17 .int, interfaces := #[14, 4], accessFlags := 1041 }

def heap : Heap := #[]
def classes : Array Class := #[k0, k1, k2, k3, k4, k5, k6, k7, k8, k9, k10, k11, k12, k13, k14, k15, k16, k17, k18]
def interned : List (Array UInt16 × Addr) := []
def slotsUsed : Nat := 0
def theMethod : MethodId := ⟨1, 1⟩
def args0 : Array Value := #[.int 5, .int 5]
def aboutOver (below : List Frame) : State where
  vm := { classes := classes, interned := interned.toArray }
  heap := heap
  slotsUsed := slotsUsed
  threads := #[{ frames := .invoking theMethod args0 :: below }]
def below0 : List Frame := [.native { method := ⟨0, 0⟩, args := #[] }]
def about1 : State := aboutOver below0
def p0 : Program := .bare "" "" ""
def e0 : Env := launch0.env 0 0 0
theorem w_frames : about1.frames = Frame.invoking theMethod args0 :: below0 := rfl
set_option maxRecDepth 65536 in
theorem w_args : argsFit about1.vm theMethod args0 = true := by decide +kernel
set_option maxRecDepth 65536 in
theorem w_heap : heapFits about1 = true := by decide +kernel
set_option maxRecDepth 65536 in
theorem w_runnable : about1.curStatus? = some .runnable := by decide +kernel
set_option maxRecDepth 65536 in
theorem w_alone : about1.alone = true := by decide +kernel
set_option maxRecDepth 65536 in
theorem w_named : about1.methodNamed? x = some theMethod := by decide +kernel
set_option maxRecDepth 65536 in
theorem w_hears : about1.hears theMethod below0 = true := by decide +kernel
set_option maxRecDepth 65536 in
theorem w_ripe : about1.ripe theMethod args0 below0 = true := by decide +kernel
theorem w_running : about1.status = .running := rfl
set_option maxRecDepth 65536 in
theorem w_room : about1.hasRoom e0.platform room_1 = true :=
  launch0.hasRoom_least _ room_1 (by decide +kernel) (by decide +kernel) (by decide +kernel) (by decide +kernel) (by decide +kernel) (by decide +kernel)
theorem allAtoms_all (ts : List Jvm.Cond) (a : Array Jvm.Value) (st : Jvm.State) : (allAtoms ts).before a st = ts.all (fun c => c.before a st) := by
  induction ts with
  | nil => rfl
  | cons c t ih =>
    show (Jvm.Cond.and c (allAtoms t)).before a st = _
    rw [Jvm.Cond.before_and, ih, List.all_cons]
def words1 : List Jvm.Cond := Jvm.Cond.code x code maxLocals ret :: tables_1
/-- a 'code' word, met by the world's own term for the bytes: nothing is compared byte by byte -/
theorem code_word {y : MethodName} {bytes : ByteArray} {mx : Nat} {rt : Option FieldType} {a : Array Value} {s : State} {m : MethodId} {meth : Method} {c : Code} (h1 : s.methodNamed? y = some m) (h2 : s.vm.method? m = some meth) (h3 : meth.code = some c) (h4 : c.code = bytes)
    (h5 : (c.maxLocals == mx && c.exceptionTable.isEmpty && decide (c.maxStack ≤ mostOperands) && decide (meth.sig.returnType = rt) && !meth.locks && decide (parseMethodDescriptor y.desc = some meth.sig)) = true) : (Jvm.Cond.code y bytes mx rt).before a s = true := by
  simp only [Bool.and_eq_true, beq_iff_eq, Bool.not_eq_true', decide_eq_true_eq] at h5
  obtain ⟨⟨⟨⟨⟨g1, g2⟩, g3⟩, g4⟩, g5⟩, g6⟩ := h5
  simp [Cond.before, Cond.holds, Cond.value, h1, h2, h3, h4, g1, g2, g3, g4, g5, g6]
def isCode : Jvm.Cond → Bool
  | .code _ _ _ _ => true
  | _ => false
theorem all_split {L : List Jvm.Cond} {P : Jvm.Cond → Bool} (h1 : L.all (fun c => isCode c || P c) = true) (h2 : ∀ c ∈ L.filter isCode, P c = true) : L.all P = true := by
  refine List.all_eq_true.mpr fun c hc => ?_
  have h := List.all_eq_true.mp h1 c hc
  rcases Bool.eq_false_or_eq_true (isCode c) with hi | hi
  · exact h2 c (List.mem_filter.mpr ⟨hc, hi⟩)
  · simpa [hi] using h
set_option maxRecDepth 65536 in
theorem w_c0 : (Jvm.Cond.code x code maxLocals ret).before args0 about1 = true := code_word (m := ⟨1, 1⟩) (meth := k1m1) (c := k1c1) (by decide +kernel) rfl rfl rfl (by decide +kernel)
set_option maxRecDepth 65536 in
theorem w_c1 : (Jvm.Cond.code ({ cls := "com/example/tasks_to_slots/taskstoslots/model/Budget", name := "<init>", desc := "(D)V" } : Jvm.MethodName) prog_35_method_1_code (3 : Nat) (Option.none : Option Jvm.ClassFile.FieldType)).before args0 about1 = true := code_word (m := ⟨3, 0⟩) (meth := k3m0) (c := k3c0) (by decide +kernel) rfl rfl rfl (by decide +kernel)
set_option maxRecDepth 65536 in
theorem w_c2 : (Jvm.Cond.code ({ cls := "java/lang/Record", name := "<init>", desc := "()V" } : Jvm.MethodName) jdk_30_method_1_code (1 : Nat) (Option.none : Option Jvm.ClassFile.FieldType)).before args0 about1 = true := code_word (m := ⟨2, 0⟩) (meth := k2m0) (c := k2c0) (by decide +kernel) rfl rfl rfl (by decide +kernel)
set_option maxRecDepth 65536 in
theorem w_c3 : (Jvm.Cond.code ({ cls := "java/lang/Object", name := "<init>", desc := "()V" } : Jvm.MethodName) object_method_1_code (1 : Nat) (Option.none : Option Jvm.ClassFile.FieldType)).before args0 about1 = true := code_word (m := ⟨0, 0⟩) (meth := k0m0) (c := k0c0) (by decide +kernel) rfl rfl rfl (by decide +kernel)
set_option maxRecDepth 65536 in
theorem w_c4 : (Jvm.Cond.code ({ cls := "com/example/tasks_to_slots/taskstoslots/model/Checks", name := "requireNonNegative", desc := "(DLjava/lang/String;)V" } : Jvm.MethodName) prog_38_method_4_code (3 : Nat) (Option.none : Option Jvm.ClassFile.FieldType)).before args0 about1 = true := code_word (m := ⟨10, 1⟩) (meth := k10m1) (c := k10c1) (by decide +kernel) rfl rfl rfl (by decide +kernel)
set_option maxRecDepth 65536 in
theorem w_c5 : (Jvm.Cond.code ({ cls := "java/lang/Double", name := "isInfinite", desc := "(D)Z" } : Jvm.MethodName) jdk_117_method_7_code (2 : Nat) (Option.some Jvm.ClassFile.FieldType.boolean)).before args0 about1 = true := code_word (m := ⟨12, 0⟩) (meth := k12m0) (c := k12c0) (by decide +kernel) rfl rfl rfl (by decide +kernel)
set_option maxRecDepth 65536 in
theorem w_c6 : (Jvm.Cond.code ({ cls := "java/lang/Math", name := "abs", desc := "(D)D" } : Jvm.MethodName) jdk_29_method_64_code (2 : Nat) (Option.some Jvm.ClassFile.FieldType.double)).before args0 about1 = true := code_word (m := ⟨13, 1⟩) (meth := k13m1) (c := k13c1) (by decide +kernel) rfl rfl rfl (by decide +kernel)
set_option maxRecDepth 65536 in
theorem w_c7 : (Jvm.Cond.code ({ cls := "com/example/tasks_to_slots/taskstoslots/model/Budget", name := "covers", desc := "(D)Z" } : Jvm.MethodName) prog_35_method_2_code (3 : Nat) (Option.some Jvm.ClassFile.FieldType.boolean)).before args0 about1 = true := code_word (m := ⟨3, 1⟩) (meth := k3m1) (c := k3c1) (by decide +kernel) rfl rfl rfl (by decide +kernel)
def codes1 : List Jvm.Cond := [Jvm.Cond.code x code maxLocals ret, Jvm.Cond.code ({ cls := "com/example/tasks_to_slots/taskstoslots/model/Budget", name := "<init>", desc := "(D)V" } : Jvm.MethodName) prog_35_method_1_code (3 : Nat) (Option.none : Option Jvm.ClassFile.FieldType), Jvm.Cond.code ({ cls := "java/lang/Record", name := "<init>", desc := "()V" } : Jvm.MethodName) jdk_30_method_1_code (1 : Nat) (Option.none : Option Jvm.ClassFile.FieldType), Jvm.Cond.code ({ cls := "java/lang/Object", name := "<init>", desc := "()V" } : Jvm.MethodName) object_method_1_code (1 : Nat) (Option.none : Option Jvm.ClassFile.FieldType), Jvm.Cond.code ({ cls := "com/example/tasks_to_slots/taskstoslots/model/Checks", name := "requireNonNegative", desc := "(DLjava/lang/String;)V" } : Jvm.MethodName) prog_38_method_4_code (3 : Nat) (Option.none : Option Jvm.ClassFile.FieldType), Jvm.Cond.code ({ cls := "java/lang/Double", name := "isInfinite", desc := "(D)Z" } : Jvm.MethodName) jdk_117_method_7_code (2 : Nat) (Option.some Jvm.ClassFile.FieldType.boolean), Jvm.Cond.code ({ cls := "java/lang/Math", name := "abs", desc := "(D)D" } : Jvm.MethodName) jdk_29_method_64_code (2 : Nat) (Option.some Jvm.ClassFile.FieldType.double), Jvm.Cond.code ({ cls := "com/example/tasks_to_slots/taskstoslots/model/Budget", name := "covers", desc := "(D)Z" } : Jvm.MethodName) prog_35_method_2_code (3 : Nat) (Option.some Jvm.ClassFile.FieldType.boolean)]
set_option maxRecDepth 65536 in
theorem codes_eq : words1.filter isCode = codes1 := rfl
theorem w_codes : ∀ c ∈ words1.filter isCode, c.before args0 about1 = true := by
  rw [codes_eq]
  intro c hc
  simp only [codes1, List.mem_cons, List.not_mem_nil, or_false] at hc
  rcases hc with rfl | rfl | rfl | rfl | rfl | rfl | rfl | rfl
  · exact w_c0
  · exact w_c1
  · exact w_c2
  · exact w_c3
  · exact w_c4
  · exact w_c5
  · exact w_c6
  · exact w_c7
set_option maxRecDepth 65536 in
theorem w_t1 : (words1.take 24).all (fun c => isCode c || c.before args0 about1) = true := by decide +kernel
set_option maxRecDepth 65536 in
theorem w_t2 : (words1.drop 24).all (fun c => isCode c || c.before args0 about1) = true := by decide +kernel
theorem w_tables : (allAtoms (Jvm.Cond.code x code maxLocals ret :: tables_1)).before args0 about1 = true := by
  rw [allAtoms_all]
  show words1.all (fun c => c.before args0 about1) = true
  refine all_split ?_ w_codes
  rw [← List.take_append_drop 24 words1, List.all_append, w_t1, w_t2]
  rfl
set_option maxRecDepth 65536 in
theorem w_case : (Jvm.Cond.and given_1 narrow_1).before args0 about1 = true := by decide +kernel
theorem w_applies : (headSpec (Jvm.Cond.code x code maxLocals ret :: tables_1) room_1).applies x e0.platform about1 = true :=
  (Spec.applies_iff w_frames).mpr ⟨w_running, w_runnable, w_alone, w_named, w_hears, w_ripe, w_room, w_tables⟩
theorem atStart : AtStart classFile x code maxLocals ret World_1 tables_1 room_1 Calls_1 rest_1 Pre_1 launch0 p0 e0 about1 theMethod args0 below0 :=
  ⟨lists_1, trivial, launch0.admits_env _ _ _, launch0.least_env, fairChoices_fair.cas, fairChoices_fair.clock, w_frames, w_args, w_heap, w_applies, trivial, trivial, w_case⟩
end start1
theorem witness_1 : WitnessClaimed_1 := ⟨start1.p0, start1.e0, start1.about1, start1.theMethod, start1.args0, start1.below0, start1.atStart⟩
end Jvm.Pilot.@@N@@
